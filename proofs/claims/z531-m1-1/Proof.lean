import JvmDerived
import JvmDerived.Pilot.@@N@@Statement
import JvmDerived.Pilot.@@N@@Code
set_option linter.unusedVariables false
set_option linter.unusedSimpArgs false
namespace Jvm.Wk
open Sem ClassFile Op Lib Jvm.Stand Jvm.Free Jvm.LawKit Jvm.RoadKit
/-- a boolean as an int -/
def b2 (P : Prop) [Decidable P] : Int32 := if P then 1 else 0
theorem b2_t {P : Prop} [Decidable P] (h : P) : b2 P = 1 := if_pos h
theorem b2_f {P : Prop} [Decidable P] (h : ¬ P) : b2 P = 0 := if_neg h
theorem b2_01 (P : Prop) [Decidable P] : b2 P = 0 ∨ b2 P = 1 := by by_cases h : P <;> simp [b2, h]
theorem b2_congr {P P' : Prop} [Decidable P] [Decidable P'] (h : P ↔ P') : b2 P = b2 P' := by simp only [b2, h]
theorem b2_int (P : Prop) [Decidable P] : (b2 P).toInt = if P then 1 else 0 := by by_cases h : P <;> simp [b2, h]
theorem b2_ne0 (P : Prop) [Decidable P] : (b2 P).toInt ≠ 0 ↔ P := by by_cases h : P <;> simp [b2, h]
theorem b2_eq0 (P : Prop) [Decidable P] : (b2 P).toInt = 0 ↔ ¬ P := by by_cases h : P <;> simp [b2, h]
theorem b2_inj (P P' : Prop) [Decidable P] [Decidable P'] : (b2 P).toInt = (b2 P').toInt ↔ (P ↔ P') := by by_cases h : P <;> by_cases h' : P' <;> simp [b2, h, h']
theorem eqI {x y : Int32} (h : x.toInt = y.toInt) : x = y := Int32.toInt_inj.mp h
theorem eqL {x y : Int64} (h : x.toInt = y.toInt) : x = y := Int64.toInt_inj.mp h
/-- from the frame f, with the heap h and so many cells and slots made, the body ends as Q says -/
def Go (p : Program) (l : Launch) (e : Env) (R : Room) (s : State) (m : MethodId) (args : Array Value) (below : List Frame) (meth : Method) (c : Code) (n0 : Nat) (Q : Option Value → Heap → Prop) (h : Heap) (kc ks : Nat) (f : JFrame) : Prop :=
  ∀ (T : State) (locs : List Loc), Stand p l e R s m args below meth c T locs kc ks → T.heap = h → Fr n0 locs →
    ∃ s₂ o, Steps p.tables e below (T.setTop f) s₂ ∧ s₂.status = .running ∧ Ended s₂ below o ∧ ∃ v L, o = .returned v ∧ (Q v s₂.heap ∧ Fr n0 L) ∧ FrameEnd s o s₂ L R.cells R.slots
/-- the ambient of a body's walk, hidden behind G -/
def Cx (l : Launch) (R : Room) (Z : State) (n0 : Nat) (Q : Option Value → Heap → Prop) (own nm : String) (bytes : ByteArray) (maxL : Nat) (ret : Option FieldType) (m : MethodId) (G : Heap → Nat → Nat → JFrame → Prop) : Prop :=
  ∃ (p : Program) (e : Env) (s : State) (args : Array Value) (below : List Frame) (meth : Method) (c : Code), G = Go p l e R s m args below meth c n0 Q ∧ p.tables.exec = Jvm.exec ∧ c.code = bytes ∧ c.maxLocals = maxL ∧ s.vm.findClass own = some m.cls ∧ Z.Warmed39 s.vm ∧ meth.sig.returnType = ret ∧ meth.locks = false ∧ meth.name = nm
/-- the contract of a body, asked with these arguments at this heap -/
def MeetsW (l : Launch) (Z : State) (n0 : Nat) (y : MethodName) (bytes : ByteArray) (maxL : Nat) (ret : Option FieldType) (rm : Room) (as' : Array Value) (h0 : Heap) (Q : Option Value → Heap → Prop) : Prop :=
  ∀ ws : List Cond, MetFree l y (head1 (Cond.code y bytes maxL ret :: ws) rm) (fun a U => a = as' ∧ Z.Warmed39 U.vm ∧ U.heap = h0) (fun _ _ _ _ _ => True) (fun _ U o U' => ∃ v L, o = .returned v ∧ (Q v U'.heap ∧ Fr n0 L) ∧ FrameEnd U o U' L rm.cells rm.slots)
/-- an array with just these values -/
def Ary (Z : State) (h : Heap) (a : Addr) (ty : FieldType) (vs : List Value) : Prop := ∃ c : Cell, Arr Z h a c ty ∧ c.slots.toList = vs ∧ vs.length < 2 ^ 31
section Facts
variable {Z : State} {h h' : Heap} {a b : Addr} {ty : FieldType} {vs : List Value} {v : Value} {sl : Nat} {ws : List Addr}
theorem Ary.lt (A : Ary Z h a ty vs) : a < h.size := by obtain ⟨c, A, -⟩ := A; exact A.lt
theorem Ary.ext (A : Ary Z h a ty vs) (E : Ext h h') : Ary Z h' a ty vs := by obtain ⟨c, A, r⟩ := A; exact ⟨c, A.ext E, r⟩
theorem Ary.other (A : Ary Z h b ty vs) (W : Wr h h' a sl v) (q : b ≠ a) : Ary Z h' b ty vs := by obtain ⟨c, A, r⟩ := A; exact ⟨c, A.other W q, r⟩
theorem Ary.keep (A : Ary Z h a ty vs) (K : Keep h h' ws) (q : a ∉ ws) : Ary Z h' a ty vs := by obtain ⟨c, A, r⟩ := A; exact ⟨c, ⟨K.2.1 a c A.1 q, A.2⟩, r⟩
theorem Ary.same (A : Ary Z h a ty vs) (W : Wr h h' a sl v) : Ary Z h' a ty (vs.set sl v) := by
  obtain ⟨c, A, r, r'⟩ := A
  refine ⟨_, A.same W, ?_, by rw [List.length_set]; exact r'⟩
  show (c.slots.setIfInBounds sl v).toList = _
  rw [Array.toList_setIfInBounds, r]
theorem clamp_of {j : Int32} {i : Nat} (hj : j.toInt = i) : j.toNatClampNeg = i := by simp only [Int32.toNatClampNeg, hj]; rfl
theorem in_of {c : Cell} {j : Int32} {i : Nat} (hj : j.toInt = i) (hi : i < c.slots.toList.length) : ¬ (j < 0 ∨ c.slots.size ≤ j.toNatClampNeg) := by
  rw [clamp_of hj]
  have h0 : ¬ j < 0 := by rw [Int32.lt_iff_toInt_lt, hj, show (0 : Int32).toInt = 0 from rfl]; omega
  rw [Array.length_toList] at hi
  intro q; rcases q with q | q
  · exact h0 q
  · omega
theorem at_of {c : Cell} {j : Int32} {i : Nat} {v : Value} (hj : j.toInt = i) (hv : c.slots.toList[i]? = some v) : c.slots[j.toNatClampNeg]? = some v := by
  rw [clamp_of hj, ← Array.getElem?_toList]; exact hv
theorem len_int {n : Nat} (h : n < 2 ^ 31) : n.toInt32.toInt = n := len_toInt h
theorem nar_byte_of {x : Int32} (h : -128 ≤ x.toInt ∧ x.toInt < 128) : nar .byte x = x := by
  apply Int32.toInt_inj.mp
  have q := c_i2b x
  show x.toInt8.toInt32.toInt = _
  omega
theorem nar_char_of {x : Int32} (h : 0 ≤ x.toInt ∧ x.toInt < 65536) : nar .char x = x := by
  apply Int32.toInt_inj.mp
  have q := c_i2c x
  show x.toUInt32.toUInt16.toUInt32.toInt32.toInt = _
  omega
theorem Ary.toArv {d : Value} (A : Ary Z h a ty vs) (hf : ∀ v ∈ vs, fits ty v = true) (hd : fits ty d = true) : ∃ (k : ClassId) (z : Int32), z.toInt = ((vs.length : Nat) : Int) ∧ Arv Z h a k ty z vs d := by
  obtain ⟨c, Ar, rfl, hlt⟩ := A
  have hl : c.slots.size < 2 ^ 31 := by rwa [Array.length_toList] at hlt
  refine ⟨c.cls, c.slots.size.toInt32, by rw [Array.length_toList]; exact len_int hl, c, Ar, rfl, by rw [clamp_of (len_int hl)], ?_, ?_, ?_⟩
  · rw [Int32.lt_iff_toInt_lt, len_int hl, show (0 : Int32).toInt = 0 from rfl]; omega
  · intro k hk; simp [List.getD_eq_getElem?_getD, hk]
  · intro i hi
    have q : c.slots.toList.getD i d = c.slots[i] := by simp [List.getD_eq_getElem?_getD, hi]
    rw [q]; exact hf _ (by simp)
theorem Arv.toAry {d : Value} {k : ClassId} {z : Int32} (F : Arv Z h a k ty z vs d) (hz : z.toInt = (vs.length : Nat)) : Ary Z h a ty vs := by
  obtain ⟨c, Ar, -, S, -, H, -⟩ := F
  rw [clamp_of hz] at S
  refine ⟨c, Ar, ?_, by have := z.toInt_lt; omega⟩
  apply List.ext_getElem?
  intro i
  by_cases hi : i < c.slots.size
  · rw [Array.getElem?_toList, H i hi, List.getD_eq_getElem?_getD]
    have hi' : i < vs.length := by omega
    simp [hi']
  · rw [List.getElem?_eq_none (by rw [Array.length_toList]; omega), List.getElem?_eq_none (by omega)]
theorem Fld.keepO {C n d : String} (F : Fld Z h a C n d v) (K : Keep h h' ws) (q : a ∉ ws) : Fld Z h' a C n d v := F.keep K q
theorem Keep.of_ext (E : Ext h h') : Keep h h' ws := (Keep.refl h ws).ext E
end Facts
section Steps
variable {l : Launch} {R : Room} {Z : State} {n0 : Nat} {Q : Option Value → Heap → Prop} {own nm : String} {bytes : ByteArray} {maxL : Nat} {ret : Option FieldType} {m : MethodId} {G : Heap → Nat → Nat → JFrame → Prop} {h : Heap} {kc ks pc pc' pc1 pc2 : Nat} {L L' : Array Slot} {S : List Value} {a0 : Array Value}
theorem MeetsW.intro {y : MethodName} {rm : Room} {as' : Array Value} {h0 : Heap} (hpl : plainFor y = true) {L0 : Array Slot} (hef : ∀ m, entryFrame m as' maxL = mkF m 0 L0 [])
    (body : ∀ m G, Cx l rm Z n0 Q y.cls y.name bytes maxL ret m G → G h0 0 0 (mkF m 0 L0 [])) : MeetsW l Z n0 y bytes maxL ret rm as' h0 Q := by
  intro ws
  refine MetFree.of_bodySF hpl hisR ?_
  intro p e s m args below meth c s₁ Bd hml0 hP hK
  obtain ⟨rfl, hZ, hh⟩ := hP
  have hnm := (name_of_methodNamed Bd.named Bd.method).1
  have X0 : Stand p l e rm s m args below meth c s₁ [] 0 0 := Stand.of_body Bd
  have e0 : s₁.heap = h0 := by rw [← hh, Bd.state]; rfl
  have q := body m _ ⟨p, e, s, args, below, meth, c, rfl, Bd.exec, Bd.bytes, hml0, findClass_of_methodNamed Bd.named, hZ, Bd.returns, Bd.notSynchronized, hnm⟩ s₁ [] X0 e0 (Fr.nil n0)
  rw [hef]; exact q
theorem Cx.step (K : Cx l R Z n0 Q own nm bytes maxL ret m G) {f f' : JFrame}
    (hs : ∀ (p : Program) (e : Env) (below : List Frame) (T : State) (c : Code), At T m c below → p.tables.exec = Jvm.exec → c.code = bytes → ∀ t, Steps p.tables e below (T.setTop f') t → Steps p.tables e below (T.setTop f) t)
    (hr : G h kc ks f') : G h kc ks f := by
  obtain ⟨p, e, s, args, below, meth, c, rfl, hx, hby, hml, hown, hZ, hret, hlk, hn⟩ := K
  intro T locs X eT N
  obtain ⟨s₂, o, h1, h2⟩ := hr T locs X eT N
  exact ⟨s₂, o, hs p e below T c X.here hx hby _ h1, h2⟩
theorem Cx.stepX (K : Cx l R Z n0 Q own nm bytes maxL ret m G) {f f' : JFrame} {h' : Heap}
    (hs : ∀ (p : Program) (e : Env) (s : State) (args : Array Value) (below : List Frame) (meth : Method) (c : Code) (T : State) (locs : List Loc), Stand p l e R s m args below meth c T locs kc ks → T.heap = h → p.tables.exec = Jvm.exec → c.code = bytes → s.vm.findClass own = some m.cls → Z.Warmed39 s.vm → ∃ T', Stand p l e R s m args below meth c T' locs kc ks ∧ T'.heap = h ∧ ∀ t, Steps p.tables e below (T'.setTop f') t → Steps p.tables e below (T.setTop f) t)
    (hr : G h kc ks f') : G h kc ks f := by
  obtain ⟨p, e, s, args, below, meth, c, rfl, hx, hby, hml, hown, hZ, hret, hlk, hn⟩ := K
  intro T locs X eT N
  obtain ⟨T', X', e', st⟩ := hs p e s args below meth c T locs X eT hx hby hown hZ
  obtain ⟨s₂, o, h1, h2⟩ := hr T' locs X' e' N
  exact ⟨s₂, o, st _ h1, h2⟩
theorem Cx.cast (K : Cx l R Z n0 Q own nm bytes maxL ret m G) {f f' : JFrame} (q : f = f') (hr : G h kc ks f') : G h kc ks f := q ▸ hr
theorem Cx.iloadN (K : Cx l R Z n0 Q own nm bytes maxL ret m G) {k : Fin 4} {v : Int32} (hd : decode bytes pc = .ok (.iload_n k, 1)) (hp : pc + 1 = pc') (hl : L[k.val]? = some (.val (.int v))) (hr : G h kc ks (mkF m pc' L (.int v :: S))) : G h kc ks (mkF m pc L (S)) := by
  subst hp
  exact K.step (fun p e below T c h hx hb0 t hr => XS.iloadN h hx rfl (hb hb0 hd) hl hr) hr
theorem Cx.iload (K : Cx l R Z n0 Q own nm bytes maxL ret m G) {k : Nat} {v : Int32} (hd : decode bytes pc = .ok (.iload k, 2)) (hp : pc + 2 = pc') (hl : L[k]? = some (.val (.int v))) (hr : G h kc ks (mkF m pc' L (.int v :: S))) : G h kc ks (mkF m pc L (S)) := by
  subst hp
  exact K.step (fun p e below T c h hx hb0 t hr => XS.iload h hx rfl (hb hb0 hd) hl hr) hr
theorem Cx.istoreN (K : Cx l R Z n0 Q own nm bytes maxL ret m G) {k : Fin 4} {x : Int32} (hd : decode bytes pc = .ok (.istore_n k, 1)) (hp : pc + 1 = pc') (hl : storeLocals L k.val (.int x) = some L') (hr : G h kc ks (mkF m pc' L' (S))) : G h kc ks (mkF m pc L (.int x :: S)) := by
  subst hp
  exact K.step (fun p e below T c h hx hb0 t hr => XS.istoreN h hx rfl (hb hb0 hd) rfl hl hr) hr
theorem Cx.istore (K : Cx l R Z n0 Q own nm bytes maxL ret m G) {k : Nat} {x : Int32} (hd : decode bytes pc = .ok (.istore k, 2)) (hp : pc + 2 = pc') (hl : storeLocals L k (.int x) = some L') (hr : G h kc ks (mkF m pc' L' (S))) : G h kc ks (mkF m pc L (.int x :: S)) := by
  subst hp
  exact K.step (fun p e below T c h hx hb0 t hr => XS.istore h hx rfl (hb hb0 hd) rfl hl hr) hr
theorem Cx.lloadN (K : Cx l R Z n0 Q own nm bytes maxL ret m G) {k : Fin 4} {v : Int64} (hd : decode bytes pc = .ok (.lload_n k, 1)) (hp : pc + 1 = pc') (hl : L[k.val]? = some (.val (.long v))) (hr : G h kc ks (mkF m pc' L (.long v :: S))) : G h kc ks (mkF m pc L (S)) := by
  subst hp
  exact K.step (fun p e below T c h hx hb0 t hr => XS.lloadN h hx rfl (hb hb0 hd) hl hr) hr
theorem Cx.lload (K : Cx l R Z n0 Q own nm bytes maxL ret m G) {k : Nat} {v : Int64} (hd : decode bytes pc = .ok (.lload k, 2)) (hp : pc + 2 = pc') (hl : L[k]? = some (.val (.long v))) (hr : G h kc ks (mkF m pc' L (.long v :: S))) : G h kc ks (mkF m pc L (S)) := by
  subst hp
  exact K.step (fun p e below T c h hx hb0 t hr => XS.lload h hx rfl (hb hb0 hd) hl hr) hr
theorem Cx.lstoreN (K : Cx l R Z n0 Q own nm bytes maxL ret m G) {k : Fin 4} {x : Int64} (hd : decode bytes pc = .ok (.lstore_n k, 1)) (hp : pc + 1 = pc') (hl : storeLocals L k.val (.long x) = some L') (hr : G h kc ks (mkF m pc' L' (S))) : G h kc ks (mkF m pc L (.long x :: S)) := by
  subst hp
  exact K.step (fun p e below T c h hx hb0 t hr => XS.lstoreN h hx rfl (hb hb0 hd) rfl hl hr) hr
theorem Cx.lstore (K : Cx l R Z n0 Q own nm bytes maxL ret m G) {k : Nat} {x : Int64} (hd : decode bytes pc = .ok (.lstore k, 2)) (hp : pc + 2 = pc') (hl : storeLocals L k (.long x) = some L') (hr : G h kc ks (mkF m pc' L' (S))) : G h kc ks (mkF m pc L (.long x :: S)) := by
  subst hp
  exact K.step (fun p e below T c h hx hb0 t hr => XS.lstore h hx rfl (hb hb0 hd) rfl hl hr) hr
theorem Cx.aloadN (K : Cx l R Z n0 Q own nm bytes maxL ret m G) {k : Fin 4} {v : Value} (hd : decode bytes pc = .ok (.aload_n k, 1)) (hp : pc + 1 = pc') (hl : L[k.val]? = some (.val v)) (hv : v.isRef = true) (hr : G h kc ks (mkF m pc' L (v :: S))) : G h kc ks (mkF m pc L (S)) := by
  subst hp
  exact K.step (fun p e below T c h hx hb0 t hr => XS.aloadN h hx rfl (hb hb0 hd) hl hv hr) hr
theorem Cx.aload (K : Cx l R Z n0 Q own nm bytes maxL ret m G) {k : Nat} {v : Value} (hd : decode bytes pc = .ok (.aload k, 2)) (hp : pc + 2 = pc') (hl : L[k]? = some (.val v)) (hv : v.isRef = true) (hr : G h kc ks (mkF m pc' L (v :: S))) : G h kc ks (mkF m pc L (S)) := by
  subst hp
  exact K.step (fun p e below T c h hx hb0 t hr => XS.aload h hx rfl (hb hb0 hd) hl hv hr) hr
theorem Cx.astoreN (K : Cx l R Z n0 Q own nm bytes maxL ret m G) {k : Fin 4} {x : Value} (hd : decode bytes pc = .ok (.astore_n k, 1)) (hp : pc + 1 = pc') (hv : x.isRef = true) (hl : storeLocals L k.val x = some L') (hr : G h kc ks (mkF m pc' L' (S))) : G h kc ks (mkF m pc L (x :: S)) := by
  subst hp
  exact K.step (fun p e below T c h hx hb0 t hr => XS.astoreN h hx rfl (hb hb0 hd) rfl hv hl hr) hr
theorem Cx.astore (K : Cx l R Z n0 Q own nm bytes maxL ret m G) {k : Nat} {x : Value} (hd : decode bytes pc = .ok (.astore k, 2)) (hp : pc + 2 = pc') (hv : x.isRef = true) (hl : storeLocals L k x = some L') (hr : G h kc ks (mkF m pc' L' (S))) : G h kc ks (mkF m pc L (x :: S)) := by
  subst hp
  exact K.step (fun p e below T c h hx hb0 t hr => XS.astore h hx rfl (hb hb0 hd) rfl hv hl hr) hr
theorem Cx.dloadN (K : Cx l R Z n0 Q own nm bytes maxL ret m G) {k : Fin 4} {v : UInt64} (hd : decode bytes pc = .ok (.dload_n k, 1)) (hp : pc + 1 = pc') (hl : L[k.val]? = some (.val (.double v))) (hr : G h kc ks (mkF m pc' L (.double v :: S))) : G h kc ks (mkF m pc L (S)) := by
  subst hp
  exact K.step (fun p e below T c h hx hb0 t hr => XS.dloadN h hx rfl (hb hb0 hd) hl hr) hr
theorem Cx.dload (K : Cx l R Z n0 Q own nm bytes maxL ret m G) {k : Nat} {v : UInt64} (hd : decode bytes pc = .ok (.dload k, 2)) (hp : pc + 2 = pc') (hl : L[k]? = some (.val (.double v))) (hr : G h kc ks (mkF m pc' L (.double v :: S))) : G h kc ks (mkF m pc L (S)) := by
  subst hp
  exact K.step (fun p e below T c h hx hb0 t hr => XS.dload h hx rfl (hb hb0 hd) hl hr) hr
theorem Cx.dstoreN (K : Cx l R Z n0 Q own nm bytes maxL ret m G) {k : Fin 4} {x : UInt64} (hd : decode bytes pc = .ok (.dstore_n k, 1)) (hp : pc + 1 = pc') (hl : storeLocals L k.val (.double x) = some L') (hr : G h kc ks (mkF m pc' L' (S))) : G h kc ks (mkF m pc L (.double x :: S)) := by
  subst hp
  exact K.step (fun p e below T c h hx hb0 t hr => XS.dstoreN h hx rfl (hb hb0 hd) rfl hl hr) hr
theorem Cx.dstore (K : Cx l R Z n0 Q own nm bytes maxL ret m G) {k : Nat} {x : UInt64} (hd : decode bytes pc = .ok (.dstore k, 2)) (hp : pc + 2 = pc') (hl : storeLocals L k (.double x) = some L') (hr : G h kc ks (mkF m pc' L' (S))) : G h kc ks (mkF m pc L (.double x :: S)) := by
  subst hp
  exact K.step (fun p e below T c h hx hb0 t hr => XS.dstore h hx rfl (hb hb0 hd) rfl hl hr) hr
theorem Cx.dconst0 (K : Cx l R Z n0 Q own nm bytes maxL ret m G) {z : UInt64} (hd : decode bytes pc = .ok (.dconst 0, 1)) (hp : pc + 1 = pc') (hz : FP.dconst0 = z) (hr : G h kc ks (mkF m pc' L (.double z :: S))) : G h kc ks (mkF m pc L (S)) := by
  subst hp hz
  exact K.step (fun p e below T c h hx hb0 t hr => XS.dconst0 h hx rfl (hb hb0 hd) rfl hr) hr
theorem Cx.dconst1 (K : Cx l R Z n0 Q own nm bytes maxL ret m G) {z : UInt64} (hd : decode bytes pc = .ok (.dconst 1, 1)) (hp : pc + 1 = pc') (hz : FP.dconst1 = z) (hr : G h kc ks (mkF m pc' L (.double z :: S))) : G h kc ks (mkF m pc L (S)) := by
  subst hp hz
  exact K.step (fun p e below T c h hx hb0 t hr => XS.dconst1 h hx rfl (hb hb0 hd) rfl hr) hr
theorem Cx.i2d (K : Cx l R Z n0 Q own nm bytes maxL ret m G) {x : Int32} {z : UInt64} (hd : decode bytes pc = .ok (.i2d, 1)) (hp : pc + 1 = pc') (hz : FP.i2d x = z) (hr : G h kc ks (mkF m pc' L (.double z :: S))) : G h kc ks (mkF m pc L (.int x :: S)) := by
  subst hp hz
  exact K.step (fun p e below T c h hx hb0 t hr => XS.i2dS h hx rfl (hb hb0 hd) rfl rfl hr) hr
theorem Cx.l2d (K : Cx l R Z n0 Q own nm bytes maxL ret m G) {x : Int64} {z : UInt64} (hd : decode bytes pc = .ok (.l2d, 1)) (hp : pc + 1 = pc') (hz : FP.l2d x = z) (hr : G h kc ks (mkF m pc' L (.double z :: S))) : G h kc ks (mkF m pc L (.long x :: S)) := by
  subst hp hz
  exact K.step (fun p e below T c h hx hb0 t hr => XS.l2dS h hx rfl (hb hb0 hd) rfl rfl hr) hr
theorem Cx.d2l (K : Cx l R Z n0 Q own nm bytes maxL ret m G) {x : UInt64} {z : Int64} (hd : decode bytes pc = .ok (.d2l, 1)) (hp : pc + 1 = pc') (hz : FP.d2l x = z) (hr : G h kc ks (mkF m pc' L (.long z :: S))) : G h kc ks (mkF m pc L (.double x :: S)) := by
  subst hp hz
  exact K.step (fun p e below T c h hx hb0 t hr => XS.d2lS h hx rfl (hb hb0 hd) rfl rfl hr) hr
theorem Cx.dadd (K : Cx l R Z n0 Q own nm bytes maxL ret m G) {x y z : UInt64} (hd : decode bytes pc = .ok (.dadd, 1)) (hp : pc + 1 = pc') (hn : Jvm.Free.Fl.NoNaN64 (FP.dadd x y)) (hz : FP.dadd x y = z) (hr : G h kc ks (mkF m pc' L (.double z :: S))) : G h kc ks (mkF m pc L (.double y :: .double x :: S)) := by
  subst hp hz
  exact K.step (fun p e below T c h hx hb0 t hr => XS.daddS h hx rfl (hb hb0 hd) rfl hn rfl hr) hr
theorem Cx.dmul (K : Cx l R Z n0 Q own nm bytes maxL ret m G) {x y z : UInt64} (hd : decode bytes pc = .ok (.dmul, 1)) (hp : pc + 1 = pc') (hn : Jvm.Free.Fl.NoNaN64 (FP.dmul x y)) (hz : FP.dmul x y = z) (hr : G h kc ks (mkF m pc' L (.double z :: S))) : G h kc ks (mkF m pc L (.double y :: .double x :: S)) := by
  subst hp hz
  exact K.step (fun p e below T c h hx hb0 t hr => XS.dmulS h hx rfl (hb hb0 hd) rfl hn rfl hr) hr
theorem Cx.ddiv (K : Cx l R Z n0 Q own nm bytes maxL ret m G) {x y z : UInt64} (hd : decode bytes pc = .ok (.ddiv, 1)) (hp : pc + 1 = pc') (hn : Jvm.Free.Fl.NoNaN64 (FP.ddiv x y)) (hz : FP.ddiv x y = z) (hr : G h kc ks (mkF m pc' L (.double z :: S))) : G h kc ks (mkF m pc L (.double y :: .double x :: S)) := by
  subst hp hz
  exact K.step (fun p e below T c h hx hb0 t hr => XS.ddivS h hx rfl (hb hb0 hd) rfl hn rfl hr) hr
theorem Cx.dsub (K : Cx l R Z n0 Q own nm bytes maxL ret m G) {x y z : UInt64} (hd : decode bytes pc = .ok (.dsub, 1)) (hp : pc + 1 = pc') (hn : Jvm.Free.Fl.NoNaN64 (FP.dsub x y)) (hz : FP.dsub x y = z) (hr : G h kc ks (mkF m pc' L (.double z :: S))) : G h kc ks (mkF m pc L (.double y :: .double x :: S)) := by
  subst hp hz
  exact K.step (fun p e below T c h hx hb0 t hr => XS.dsubS h hx rfl (hb hb0 hd) rfl hn rfl hr) hr
theorem Cx.dcmp (K : Cx l R Z n0 Q own nm bytes maxL ret m G) {o : CmpOp} {x y : UInt64} {z : Int32} (hd : decode bytes pc = .ok (.dcmp o, 1)) (hp : pc + 1 = pc') (hz : cmpValue (FP.dcmp x y) o = z) (hr : G h kc ks (mkF m pc' L (.int z :: S))) : G h kc ks (mkF m pc L (.double y :: .double x :: S)) := by
  subst hp hz
  exact K.step (fun p e below T c h hx hb0 t hr => XS.dcmpS h hx rfl (hb hb0 hd) rfl rfl hr) hr
theorem Cx.iconst (K : Cx l R Z n0 Q own nm bytes maxL ret m G) {i : Int} {z : Int32} (hd : decode bytes pc = .ok (.iconst i, 1)) (hp : pc + 1 = pc') (hz : Int32.ofInt i = z) (hr : G h kc ks (mkF m pc' L (.int z :: S))) : G h kc ks (mkF m pc L (S)) := by
  subst hp hz
  exact K.step (fun p e below T c h hx hb0 t hr => XS.iconst h hx rfl (hb hb0 hd) hr) hr
theorem Cx.bipush (K : Cx l R Z n0 Q own nm bytes maxL ret m G) {i : Int} {z : Int32} (hd : decode bytes pc = .ok (.bipush i, 2)) (hp : pc + 2 = pc') (hz : (Int8.ofInt i).toInt32 = z) (hr : G h kc ks (mkF m pc' L (.int z :: S))) : G h kc ks (mkF m pc L (S)) := by
  subst hp hz
  exact K.step (fun p e below T c h hx hb0 t hr => XS.bipush h hx rfl (hb hb0 hd) hr) hr
theorem Cx.sipush (K : Cx l R Z n0 Q own nm bytes maxL ret m G) {i : Int} {z : Int32} (hd : decode bytes pc = .ok (.sipush i, 3)) (hp : pc + 3 = pc') (hz : (Int16.ofInt i).toInt32 = z) (hr : G h kc ks (mkF m pc' L (.int z :: S))) : G h kc ks (mkF m pc L (S)) := by
  subst hp hz
  exact K.step (fun p e below T c h hx hb0 t hr => XS.sipush h hx rfl (hb hb0 hd) hr) hr
theorem Cx.lconst (K : Cx l R Z n0 Q own nm bytes maxL ret m G) {k : Fin 2} {z : Int64} (hd : decode bytes pc = .ok (.lconst k, 1)) (hp : pc + 1 = pc') (hz : Int64.ofNat k = z) (hr : G h kc ks (mkF m pc' L (.long z :: S))) : G h kc ks (mkF m pc L (S)) := by
  subst hp hz
  exact K.step (fun p e below T c h hx hb0 t hr => XS.lconst h hx rfl (hb hb0 hd) hr) hr
theorem Cx.anull (K : Cx l R Z n0 Q own nm bytes maxL ret m G) (hd : decode bytes pc = .ok (.aconst_null, 1)) (hp : pc + 1 = pc')  (hr : G h kc ks (mkF m pc' L (.null :: S))) : G h kc ks (mkF m pc L (S)) := by
  subst hp
  exact K.step (fun p e below T c h hx hb0 t hr => XS.aconstNull h hx rfl (hb hb0 hd) hr) hr
theorem Cx.iadd (K : Cx l R Z n0 Q own nm bytes maxL ret m G) {x y z : Int32} (hd : decode bytes pc = .ok (.iadd, 1)) (hp : pc + 1 = pc') (hz : x + y = z) (hr : G h kc ks (mkF m pc' L (.int z :: S))) : G h kc ks (mkF m pc L (.int y :: .int x :: S)) := by
  subst hp hz
  exact K.step (fun p e below T c h hx hb0 t hr => XS.iadd h hx rfl (hb hb0 hd) rfl hr) hr
theorem Cx.ladd (K : Cx l R Z n0 Q own nm bytes maxL ret m G) {x y z : Int64} (hd : decode bytes pc = .ok (.ladd, 1)) (hp : pc + 1 = pc') (hz : x + y = z) (hr : G h kc ks (mkF m pc' L (.long z :: S))) : G h kc ks (mkF m pc L (.long y :: .long x :: S)) := by
  subst hp hz
  exact K.step (fun p e below T c h hx hb0 t hr => XS.ladd h hx rfl (hb hb0 hd) rfl hr) hr
theorem Cx.isub (K : Cx l R Z n0 Q own nm bytes maxL ret m G) {x y z : Int32} (hd : decode bytes pc = .ok (.isub, 1)) (hp : pc + 1 = pc') (hz : x - y = z) (hr : G h kc ks (mkF m pc' L (.int z :: S))) : G h kc ks (mkF m pc L (.int y :: .int x :: S)) := by
  subst hp hz
  exact K.step (fun p e below T c h hx hb0 t hr => XS.isub h hx rfl (hb hb0 hd) rfl hr) hr
theorem Cx.lsub (K : Cx l R Z n0 Q own nm bytes maxL ret m G) {x y z : Int64} (hd : decode bytes pc = .ok (.lsub, 1)) (hp : pc + 1 = pc') (hz : x - y = z) (hr : G h kc ks (mkF m pc' L (.long z :: S))) : G h kc ks (mkF m pc L (.long y :: .long x :: S)) := by
  subst hp hz
  exact K.step (fun p e below T c h hx hb0 t hr => XS.lsub h hx rfl (hb hb0 hd) rfl hr) hr
theorem Cx.imul (K : Cx l R Z n0 Q own nm bytes maxL ret m G) {x y z : Int32} (hd : decode bytes pc = .ok (.imul, 1)) (hp : pc + 1 = pc') (hz : x * y = z) (hr : G h kc ks (mkF m pc' L (.int z :: S))) : G h kc ks (mkF m pc L (.int y :: .int x :: S)) := by
  subst hp hz
  exact K.step (fun p e below T c h hx hb0 t hr => XS.imul h hx rfl (hb hb0 hd) rfl hr) hr
theorem Cx.lmul (K : Cx l R Z n0 Q own nm bytes maxL ret m G) {x y z : Int64} (hd : decode bytes pc = .ok (.lmul, 1)) (hp : pc + 1 = pc') (hz : x * y = z) (hr : G h kc ks (mkF m pc' L (.long z :: S))) : G h kc ks (mkF m pc L (.long y :: .long x :: S)) := by
  subst hp hz
  exact K.step (fun p e below T c h hx hb0 t hr => XS.lmul h hx rfl (hb hb0 hd) rfl hr) hr
theorem Cx.iand (K : Cx l R Z n0 Q own nm bytes maxL ret m G) {x y z : Int32} (hd : decode bytes pc = .ok (.iand, 1)) (hp : pc + 1 = pc') (hz : x &&& y = z) (hr : G h kc ks (mkF m pc' L (.int z :: S))) : G h kc ks (mkF m pc L (.int y :: .int x :: S)) := by
  subst hp hz
  exact K.step (fun p e below T c h hx hb0 t hr => XS.iand h hx rfl (hb hb0 hd) rfl hr) hr
theorem Cx.land (K : Cx l R Z n0 Q own nm bytes maxL ret m G) {x y z : Int64} (hd : decode bytes pc = .ok (.land, 1)) (hp : pc + 1 = pc') (hz : x &&& y = z) (hr : G h kc ks (mkF m pc' L (.long z :: S))) : G h kc ks (mkF m pc L (.long y :: .long x :: S)) := by
  subst hp hz
  exact K.step (fun p e below T c h hx hb0 t hr => XS.land h hx rfl (hb hb0 hd) rfl hr) hr
theorem Cx.ior (K : Cx l R Z n0 Q own nm bytes maxL ret m G) {x y z : Int32} (hd : decode bytes pc = .ok (.ior, 1)) (hp : pc + 1 = pc') (hz : x ||| y = z) (hr : G h kc ks (mkF m pc' L (.int z :: S))) : G h kc ks (mkF m pc L (.int y :: .int x :: S)) := by
  subst hp hz
  exact K.step (fun p e below T c h hx hb0 t hr => XS.ior h hx rfl (hb hb0 hd) rfl hr) hr
theorem Cx.lor (K : Cx l R Z n0 Q own nm bytes maxL ret m G) {x y z : Int64} (hd : decode bytes pc = .ok (.lor, 1)) (hp : pc + 1 = pc') (hz : x ||| y = z) (hr : G h kc ks (mkF m pc' L (.long z :: S))) : G h kc ks (mkF m pc L (.long y :: .long x :: S)) := by
  subst hp hz
  exact K.step (fun p e below T c h hx hb0 t hr => XS.lor h hx rfl (hb hb0 hd) rfl hr) hr
theorem Cx.ixor (K : Cx l R Z n0 Q own nm bytes maxL ret m G) {x y z : Int32} (hd : decode bytes pc = .ok (.ixor, 1)) (hp : pc + 1 = pc') (hz : x ^^^ y = z) (hr : G h kc ks (mkF m pc' L (.int z :: S))) : G h kc ks (mkF m pc L (.int y :: .int x :: S)) := by
  subst hp hz
  exact K.step (fun p e below T c h hx hb0 t hr => XS.ixor h hx rfl (hb hb0 hd) rfl hr) hr
theorem Cx.lxor (K : Cx l R Z n0 Q own nm bytes maxL ret m G) {x y z : Int64} (hd : decode bytes pc = .ok (.lxor, 1)) (hp : pc + 1 = pc') (hz : x ^^^ y = z) (hr : G h kc ks (mkF m pc' L (.long z :: S))) : G h kc ks (mkF m pc L (.long y :: .long x :: S)) := by
  subst hp hz
  exact K.step (fun p e below T c h hx hb0 t hr => XS.lxor h hx rfl (hb hb0 hd) rfl hr) hr
theorem Cx.ishl (K : Cx l R Z n0 Q own nm bytes maxL ret m G) {x y z : Int32} (hd : decode bytes pc = .ok (.ishl, 1)) (hp : pc + 1 = pc') (hz : x <<< (y &&& 31) = z) (hr : G h kc ks (mkF m pc' L (.int z :: S))) : G h kc ks (mkF m pc L (.int y :: .int x :: S)) := by
  subst hp hz
  exact K.step (fun p e below T c h hx hb0 t hr => XS.ishl h hx rfl (hb hb0 hd) rfl hr) hr
theorem Cx.ishr (K : Cx l R Z n0 Q own nm bytes maxL ret m G) {x y z : Int32} (hd : decode bytes pc = .ok (.ishr, 1)) (hp : pc + 1 = pc') (hz : x >>> (y &&& 31) = z) (hr : G h kc ks (mkF m pc' L (.int z :: S))) : G h kc ks (mkF m pc L (.int y :: .int x :: S)) := by
  subst hp hz
  exact K.step (fun p e below T c h hx hb0 t hr => XS.ishr h hx rfl (hb hb0 hd) rfl hr) hr
theorem Cx.iushr (K : Cx l R Z n0 Q own nm bytes maxL ret m G) {x y z : Int32} (hd : decode bytes pc = .ok (.iushr, 1)) (hp : pc + 1 = pc') (hz : (x.toUInt32 >>> (y &&& 31).toUInt32).toInt32 = z) (hr : G h kc ks (mkF m pc' L (.int z :: S))) : G h kc ks (mkF m pc L (.int y :: .int x :: S)) := by
  subst hp hz
  exact K.step (fun p e below T c h hx hb0 t hr => XS.iushr h hx rfl (hb hb0 hd) rfl hr) hr
theorem Cx.lshl (K : Cx l R Z n0 Q own nm bytes maxL ret m G) {x z : Int64} {y : Int32} (hd : decode bytes pc = .ok (.lshl, 1)) (hp : pc + 1 = pc') (hz : x <<< (y &&& 0x3f).toInt64 = z) (hr : G h kc ks (mkF m pc' L (.long z :: S))) : G h kc ks (mkF m pc L (.int y :: .long x :: S)) := by
  subst hp hz
  exact K.step (fun p e below T c h hx hb0 t hr => XS.lshl h hx rfl (hb hb0 hd) rfl hr) hr
theorem Cx.lshr (K : Cx l R Z n0 Q own nm bytes maxL ret m G) {x z : Int64} {y : Int32} (hd : decode bytes pc = .ok (.lshr, 1)) (hp : pc + 1 = pc') (hz : x >>> (y &&& 0x3f).toInt64 = z) (hr : G h kc ks (mkF m pc' L (.long z :: S))) : G h kc ks (mkF m pc L (.int y :: .long x :: S)) := by
  subst hp hz
  exact K.step (fun p e below T c h hx hb0 t hr => XS.lshr h hx rfl (hb hb0 hd) rfl hr) hr
theorem Cx.lushr (K : Cx l R Z n0 Q own nm bytes maxL ret m G) {x z : Int64} {y : Int32} (hd : decode bytes pc = .ok (.lushr, 1)) (hp : pc + 1 = pc') (hz : (x.toUInt64 >>> (y &&& 0x3f).toInt64.toUInt64).toInt64 = z) (hr : G h kc ks (mkF m pc' L (.long z :: S))) : G h kc ks (mkF m pc L (.int y :: .long x :: S)) := by
  subst hp hz
  exact K.step (fun p e below T c h hx hb0 t hr => XS.lushr h hx rfl (hb hb0 hd) rfl hr) hr
theorem Cx.idiv (K : Cx l R Z n0 Q own nm bytes maxL ret m G) {x y z : Int32} (hd : decode bytes pc = .ok (.idiv, 1)) (hp : pc + 1 = pc') (hy : y ≠ 0) (hz : x / y = z) (hr : G h kc ks (mkF m pc' L (.int z :: S))) : G h kc ks (mkF m pc L (.int y :: .int x :: S)) := by
  subst hp hz
  exact K.step (fun p e below T c h hx hb0 t hr => XS.idiv h hx rfl (hb hb0 hd) rfl hy hr) hr
theorem Cx.ldiv (K : Cx l R Z n0 Q own nm bytes maxL ret m G) {x y z : Int64} (hd : decode bytes pc = .ok (.ldiv, 1)) (hp : pc + 1 = pc') (hy : y ≠ 0) (hz : x / y = z) (hr : G h kc ks (mkF m pc' L (.long z :: S))) : G h kc ks (mkF m pc L (.long y :: .long x :: S)) := by
  subst hp hz
  exact K.step (fun p e below T c h hx hb0 t hr => XS.ldiv h hx rfl (hb hb0 hd) rfl hy hr) hr
theorem Cx.irem (K : Cx l R Z n0 Q own nm bytes maxL ret m G) {x y z : Int32} (hd : decode bytes pc = .ok (.irem, 1)) (hp : pc + 1 = pc') (hy : y ≠ 0) (hz : x % y = z) (hr : G h kc ks (mkF m pc' L (.int z :: S))) : G h kc ks (mkF m pc L (.int y :: .int x :: S)) := by
  subst hp hz
  exact K.step (fun p e below T c h hx hb0 t hr => XS.irem h hx rfl (hb hb0 hd) rfl hy (by rw [irem_eq_mod]; exact hr)) hr
theorem Cx.lrem (K : Cx l R Z n0 Q own nm bytes maxL ret m G) {x y z : Int64} (hd : decode bytes pc = .ok (.lrem, 1)) (hp : pc + 1 = pc') (hy : y ≠ 0) (hz : x % y = z) (hr : G h kc ks (mkF m pc' L (.long z :: S))) : G h kc ks (mkF m pc L (.long y :: .long x :: S)) := by
  subst hp hz
  exact K.step (fun p e below T c h hx hb0 t hr => XS.lrem h hx rfl (hb hb0 hd) rfl hy (by rw [lrem_mod]; exact hr)) hr
theorem Cx.ineg (K : Cx l R Z n0 Q own nm bytes maxL ret m G) {x z : Int32} (hd : decode bytes pc = .ok (.ineg, 1)) (hp : pc + 1 = pc') (hz : -x = z) (hr : G h kc ks (mkF m pc' L (.int z :: S))) : G h kc ks (mkF m pc L (.int x :: S)) := by
  subst hp hz
  exact K.step (fun p e below T c h hx hb0 t hr => XS.ineg h hx rfl (hb hb0 hd) rfl hr) hr
theorem Cx.lneg (K : Cx l R Z n0 Q own nm bytes maxL ret m G) {x z : Int64} (hd : decode bytes pc = .ok (.lneg, 1)) (hp : pc + 1 = pc') (hz : -x = z) (hr : G h kc ks (mkF m pc' L (.long z :: S))) : G h kc ks (mkF m pc L (.long x :: S)) := by
  subst hp hz
  exact K.step (fun p e below T c h hx hb0 t hr => XS.lneg h hx rfl (hb hb0 hd) rfl hr) hr
theorem Cx.i2b (K : Cx l R Z n0 Q own nm bytes maxL ret m G) {x : Int32} {z : Int32} (hd : decode bytes pc = .ok (.i2b, 1)) (hp : pc + 1 = pc') (hz : x.toInt8.toInt32 = z) (hr : G h kc ks (mkF m pc' L (.int z :: S))) : G h kc ks (mkF m pc L (.int x :: S)) := by
  subst hp hz
  exact K.step (fun p e below T c h hx hb0 t hr => XS.i2b h hx rfl (hb hb0 hd) rfl hr) hr
theorem Cx.i2c (K : Cx l R Z n0 Q own nm bytes maxL ret m G) {x : Int32} {z : Int32} (hd : decode bytes pc = .ok (.i2c, 1)) (hp : pc + 1 = pc') (hz : x.toUInt32.toUInt16.toUInt32.toInt32 = z) (hr : G h kc ks (mkF m pc' L (.int z :: S))) : G h kc ks (mkF m pc L (.int x :: S)) := by
  subst hp hz
  exact K.step (fun p e below T c h hx hb0 t hr => XS.i2c h hx rfl (hb hb0 hd) rfl hr) hr
theorem Cx.i2s (K : Cx l R Z n0 Q own nm bytes maxL ret m G) {x : Int32} {z : Int32} (hd : decode bytes pc = .ok (.i2s, 1)) (hp : pc + 1 = pc') (hz : x.toInt16.toInt32 = z) (hr : G h kc ks (mkF m pc' L (.int z :: S))) : G h kc ks (mkF m pc L (.int x :: S)) := by
  subst hp hz
  exact K.step (fun p e below T c h hx hb0 t hr => XS.i2s h hx rfl (hb hb0 hd) rfl hr) hr
theorem Cx.i2l (K : Cx l R Z n0 Q own nm bytes maxL ret m G) {x : Int32} {z : Int64} (hd : decode bytes pc = .ok (.i2l, 1)) (hp : pc + 1 = pc') (hz : x.toInt64 = z) (hr : G h kc ks (mkF m pc' L (.long z :: S))) : G h kc ks (mkF m pc L (.int x :: S)) := by
  subst hp hz
  exact K.step (fun p e below T c h hx hb0 t hr => XS.i2l h hx rfl (hb hb0 hd) rfl hr) hr
theorem Cx.l2i (K : Cx l R Z n0 Q own nm bytes maxL ret m G) {x : Int64} {z : Int32} (hd : decode bytes pc = .ok (.l2i, 1)) (hp : pc + 1 = pc') (hz : x.toInt32 = z) (hr : G h kc ks (mkF m pc' L (.int z :: S))) : G h kc ks (mkF m pc L (.long x :: S)) := by
  subst hp hz
  exact K.step (fun p e below T c h hx hb0 t hr => XS.l2i h hx rfl (hb hb0 hd) rfl hr) hr
theorem Cx.iinc (K : Cx l R Z n0 Q own nm bytes maxL ret m G) {k : Nat} {cst : Int} {x z : Int32} (hd : decode bytes pc = .ok (.iinc k cst, 3)) (hp : pc + 3 = pc') (hl : L[k]? = some (.val (.int x))) (hz : x + Int32.ofInt cst = z) (hl' : storeLocals L k (.int z) = some L') (hr : G h kc ks (mkF m pc' L' (S))) : G h kc ks (mkF m pc L (S)) := by
  subst hp hz
  exact K.step (fun p e below T c h hx hb0 t hr => XS.iinc h hx rfl (hb hb0 hd) hl hl' hr) hr
theorem Cx.dup (K : Cx l R Z n0 Q own nm bytes maxL ret m G) {x : Value} (hd : decode bytes pc = .ok (.dup, 1)) (hp : pc + 1 = pc') (hc : x.category = 1) (hr : G h kc ks (mkF m pc' L (x :: x :: S))) : G h kc ks (mkF m pc L (x :: S)) := by
  subst hp
  exact K.step (fun p e below T c h hx hb0 t hr => XS.dup h hx rfl (hb hb0 hd) rfl hc hr) hr
theorem Cx.pop (K : Cx l R Z n0 Q own nm bytes maxL ret m G) {x : Value} (hd : decode bytes pc = .ok (.pop, 1)) (hp : pc + 1 = pc') (hc : x.category = 1) (hr : G h kc ks (mkF m pc' L (S))) : G h kc ks (mkF m pc L (x :: S)) := by
  subst hp
  exact K.step (fun p e below T c h hx hb0 t hr => XS.pop h hx rfl (hb hb0 hd) rfl hc hr) hr
theorem Cx.dupX1 (K : Cx l R Z n0 Q own nm bytes maxL ret m G) {x y : Value} (hd : decode bytes pc = .ok (.dup_x1, 1)) (hp : pc + 1 = pc') (hc : x.category = 1) (hc2 : y.category = 1) (hr : G h kc ks (mkF m pc' L (x :: y :: x :: S))) : G h kc ks (mkF m pc L (x :: y :: S)) := by
  subst hp
  exact K.step (fun p e below T c h hx hb0 t hr => XS.dupX1 h hx rfl (hb hb0 hd) rfl hc hc2 hr) hr
theorem Cx.goto (K : Cx l R Z n0 Q own nm bytes maxL ret m G) {o : Int} (hd : decode bytes pc = .ok (.goto o, 3)) (ho : 0 ≤ (pc : Int) + o) (hp : ((pc : Int) + o).toNat = pc') (hr : G h kc ks (mkF m pc' L S)) : G h kc ks (mkF m pc L S) :=
  K.step (fun p e below T c h hx hb0 t hr => XS.goto h hx rfl (pc0 := pc) (pc' := pc') rfl (hb hb0 hd) ho hp hr) hr
theorem icmpW (cd : ClassFile.Cond) {x y : Int32} {a b : Int} (ha : x.toInt = a) (hb : y.toInt = b) : if_icmp.holds cd x y = (match cd with | .lt => decide (a < b) | .ge => decide (b ≤ a) | .gt => decide (b < a) | .le => decide (a ≤ b) | .eq => decide (a = b) | .ne => decide (a ≠ b)) := by
  subst ha hb
  cases cd <;> rw [Bool.eq_iff_iff] <;> simp [if_icmp.holds, Int32.lt_iff_toInt_lt, Int32.le_iff_toInt_le, Int32.toInt_inj]
theorem lcmpW0 (cd : ClassFile.Cond) {x y : Int64} {a b : Int} (ha : x.toInt = a) (hb : y.toInt = b) : ifCond.holds cd (if x > y then 1 else if x = y then 0 else -1) = (match cd with | .lt => decide (a < b) | .ge => decide (b ≤ a) | .gt => decide (b < a) | .le => decide (a ≤ b) | .eq => decide (a = b) | .ne => decide (a ≠ b)) := by
  subst ha hb
  rcases Int.lt_trichotomy x.toInt y.toInt with h | h | h
  · have e : (if x > y then (1 : Int32) else if x = y then 0 else -1) = -1 := by rw [if_neg (by rw [gt_iff_lt, Int64.lt_iff_toInt_lt]; omega), if_neg (by rw [← Int64.toInt_inj]; omega)]
    rw [e, if0, icmpW cd (a := -1) (b := 0) rfl rfl]
    cases cd <;> exact decide_eq_decide.mpr (by omega)
  · have e : (if x > y then (1 : Int32) else if x = y then 0 else -1) = 0 := by rw [if_neg (by rw [gt_iff_lt, Int64.lt_iff_toInt_lt]; omega), if_pos (by rw [← Int64.toInt_inj]; omega)]
    rw [e, if0, icmpW cd (a := 0) (b := 0) rfl rfl]
    cases cd <;> exact decide_eq_decide.mpr (by omega)
  · have e : (if x > y then (1 : Int32) else if x = y then 0 else -1) = 1 := by rw [if_pos (by rw [gt_iff_lt, Int64.lt_iff_toInt_lt]; omega)]
    rw [e, if0, icmpW cd (a := 1) (b := 0) rfl rfl]
    cases cd <;> exact decide_eq_decide.mpr (by omega)
theorem Cx.icmp_lt (K : Cx l R Z n0 Q own nm bytes maxL ret m G) {o : Int} {x y : Int32} {a b : Int} (hd : decode bytes pc = .ok (.if_icmp .lt o, 3)) (hp : pc + 3 = pc1) (ho : 0 ≤ (pc : Int) + o) (hq : ((pc : Int) + o).toNat = pc2) (ha : x.toInt = a) (hb' : y.toInt = b) (ht : a < b → G h kc ks (mkF m pc2 L S)) (hf : b ≤ a → G h kc ks (mkF m pc1 L S)) : G h kc ks (mkF m pc L (.int y :: .int x :: S)) := by
  subst hp
  have q := icmpW .lt ha hb'
  by_cases hc : a < b
  · exact K.step (fun p e below T c h hx hb0 t hr => XS.icmpYes h hx rfl (pc0 := pc) (pc' := pc2) rfl (hb hb0 hd) rfl (q.trans (decide_eq_true hc)) ho hq hr) (ht hc)
  · exact K.step (fun p e below T c h hx hb0 t hr => XS.icmpNo h hx rfl (hb hb0 hd) rfl (q.trans (decide_eq_false hc)) hr) (hf (by omega))
theorem Cx.if_lt (K : Cx l R Z n0 Q own nm bytes maxL ret m G) {o : Int} {x : Int32} {a : Int} (hd : decode bytes pc = .ok (.ifCond .lt o, 3)) (hp : pc + 3 = pc1) (ho : 0 ≤ (pc : Int) + o) (hq : ((pc : Int) + o).toNat = pc2) (ha : x.toInt = a) (ht : a < 0 → G h kc ks (mkF m pc2 L S)) (hf : 0 ≤ a → G h kc ks (mkF m pc1 L S)) : G h kc ks (mkF m pc L (.int x :: S)) := by
  subst hp
  have q := (if0 .lt x).trans (icmpW .lt ha (b := 0) rfl)
  by_cases hc : a < 0
  · exact K.step (fun p e below T c h hx hb0 t hr => XS.ifYes h hx rfl (pc0 := pc) (pc' := pc2) rfl (hb hb0 hd) rfl (q.trans (decide_eq_true hc)) ho hq hr) (ht hc)
  · exact K.step (fun p e below T c h hx hb0 t hr => XS.ifNo h hx rfl (hb hb0 hd) rfl (q.trans (decide_eq_false hc)) hr) (hf (by omega))
theorem Cx.lcmp_lt (K : Cx l R Z n0 Q own nm bytes maxL ret m G) {o : Int} {x y : Int64} {a b : Int} (hd0 : decode bytes pc = .ok (.lcmp, 1)) (hd : decode bytes (pc + 1) = .ok (.ifCond .lt o, 3)) (hp : pc + 4 = pc1) (ho : 0 ≤ ((pc + 1 : Nat) : Int) + o) (hq : (((pc + 1 : Nat) : Int) + o).toNat = pc2) (ha : x.toInt = a) (hb' : y.toInt = b) (ht : a < b → G h kc ks (mkF m pc2 L S)) (hf : b ≤ a → G h kc ks (mkF m pc1 L S)) : G h kc ks (mkF m pc L (.long y :: .long x :: S)) := by
  subst hp
  have q := lcmpW0 .lt ha hb'
  refine K.step (f' := mkF m (pc + 1) L (.int (if x > y then 1 else if x = y then 0 else -1) :: S)) (fun p e below T c h hx hb0 t hr => XS.lcmp h hx rfl (hb hb0 hd0) rfl hr) ?_
  by_cases hc : a < b
  · exact K.step (fun p e below T c h hx hb0 t hr => XS.ifYes h hx rfl (pc0 := pc + 1) (pc' := pc2) rfl (hb hb0 hd) rfl (q.trans (decide_eq_true hc)) ho hq hr) (ht hc)
  · exact K.step (fun p e below T c h hx hb0 t hr => XS.ifNo h hx rfl (hb hb0 hd) rfl (q.trans (decide_eq_false hc)) hr) (hf (by omega))
theorem Cx.icmp_ge (K : Cx l R Z n0 Q own nm bytes maxL ret m G) {o : Int} {x y : Int32} {a b : Int} (hd : decode bytes pc = .ok (.if_icmp .ge o, 3)) (hp : pc + 3 = pc1) (ho : 0 ≤ (pc : Int) + o) (hq : ((pc : Int) + o).toNat = pc2) (ha : x.toInt = a) (hb' : y.toInt = b) (ht : b ≤ a → G h kc ks (mkF m pc2 L S)) (hf : a < b → G h kc ks (mkF m pc1 L S)) : G h kc ks (mkF m pc L (.int y :: .int x :: S)) := by
  subst hp
  have q := icmpW .ge ha hb'
  by_cases hc : b ≤ a
  · exact K.step (fun p e below T c h hx hb0 t hr => XS.icmpYes h hx rfl (pc0 := pc) (pc' := pc2) rfl (hb hb0 hd) rfl (q.trans (decide_eq_true hc)) ho hq hr) (ht hc)
  · exact K.step (fun p e below T c h hx hb0 t hr => XS.icmpNo h hx rfl (hb hb0 hd) rfl (q.trans (decide_eq_false hc)) hr) (hf (by omega))
theorem Cx.if_ge (K : Cx l R Z n0 Q own nm bytes maxL ret m G) {o : Int} {x : Int32} {a : Int} (hd : decode bytes pc = .ok (.ifCond .ge o, 3)) (hp : pc + 3 = pc1) (ho : 0 ≤ (pc : Int) + o) (hq : ((pc : Int) + o).toNat = pc2) (ha : x.toInt = a) (ht : 0 ≤ a → G h kc ks (mkF m pc2 L S)) (hf : a < 0 → G h kc ks (mkF m pc1 L S)) : G h kc ks (mkF m pc L (.int x :: S)) := by
  subst hp
  have q := (if0 .ge x).trans (icmpW .ge ha (b := 0) rfl)
  by_cases hc : 0 ≤ a
  · exact K.step (fun p e below T c h hx hb0 t hr => XS.ifYes h hx rfl (pc0 := pc) (pc' := pc2) rfl (hb hb0 hd) rfl (q.trans (decide_eq_true hc)) ho hq hr) (ht hc)
  · exact K.step (fun p e below T c h hx hb0 t hr => XS.ifNo h hx rfl (hb hb0 hd) rfl (q.trans (decide_eq_false hc)) hr) (hf (by omega))
theorem Cx.lcmp_ge (K : Cx l R Z n0 Q own nm bytes maxL ret m G) {o : Int} {x y : Int64} {a b : Int} (hd0 : decode bytes pc = .ok (.lcmp, 1)) (hd : decode bytes (pc + 1) = .ok (.ifCond .ge o, 3)) (hp : pc + 4 = pc1) (ho : 0 ≤ ((pc + 1 : Nat) : Int) + o) (hq : (((pc + 1 : Nat) : Int) + o).toNat = pc2) (ha : x.toInt = a) (hb' : y.toInt = b) (ht : b ≤ a → G h kc ks (mkF m pc2 L S)) (hf : a < b → G h kc ks (mkF m pc1 L S)) : G h kc ks (mkF m pc L (.long y :: .long x :: S)) := by
  subst hp
  have q := lcmpW0 .ge ha hb'
  refine K.step (f' := mkF m (pc + 1) L (.int (if x > y then 1 else if x = y then 0 else -1) :: S)) (fun p e below T c h hx hb0 t hr => XS.lcmp h hx rfl (hb hb0 hd0) rfl hr) ?_
  by_cases hc : b ≤ a
  · exact K.step (fun p e below T c h hx hb0 t hr => XS.ifYes h hx rfl (pc0 := pc + 1) (pc' := pc2) rfl (hb hb0 hd) rfl (q.trans (decide_eq_true hc)) ho hq hr) (ht hc)
  · exact K.step (fun p e below T c h hx hb0 t hr => XS.ifNo h hx rfl (hb hb0 hd) rfl (q.trans (decide_eq_false hc)) hr) (hf (by omega))
theorem Cx.icmp_gt (K : Cx l R Z n0 Q own nm bytes maxL ret m G) {o : Int} {x y : Int32} {a b : Int} (hd : decode bytes pc = .ok (.if_icmp .gt o, 3)) (hp : pc + 3 = pc1) (ho : 0 ≤ (pc : Int) + o) (hq : ((pc : Int) + o).toNat = pc2) (ha : x.toInt = a) (hb' : y.toInt = b) (ht : b < a → G h kc ks (mkF m pc2 L S)) (hf : a ≤ b → G h kc ks (mkF m pc1 L S)) : G h kc ks (mkF m pc L (.int y :: .int x :: S)) := by
  subst hp
  have q := icmpW .gt ha hb'
  by_cases hc : b < a
  · exact K.step (fun p e below T c h hx hb0 t hr => XS.icmpYes h hx rfl (pc0 := pc) (pc' := pc2) rfl (hb hb0 hd) rfl (q.trans (decide_eq_true hc)) ho hq hr) (ht hc)
  · exact K.step (fun p e below T c h hx hb0 t hr => XS.icmpNo h hx rfl (hb hb0 hd) rfl (q.trans (decide_eq_false hc)) hr) (hf (by omega))
theorem Cx.if_gt (K : Cx l R Z n0 Q own nm bytes maxL ret m G) {o : Int} {x : Int32} {a : Int} (hd : decode bytes pc = .ok (.ifCond .gt o, 3)) (hp : pc + 3 = pc1) (ho : 0 ≤ (pc : Int) + o) (hq : ((pc : Int) + o).toNat = pc2) (ha : x.toInt = a) (ht : 0 < a → G h kc ks (mkF m pc2 L S)) (hf : a ≤ 0 → G h kc ks (mkF m pc1 L S)) : G h kc ks (mkF m pc L (.int x :: S)) := by
  subst hp
  have q := (if0 .gt x).trans (icmpW .gt ha (b := 0) rfl)
  by_cases hc : 0 < a
  · exact K.step (fun p e below T c h hx hb0 t hr => XS.ifYes h hx rfl (pc0 := pc) (pc' := pc2) rfl (hb hb0 hd) rfl (q.trans (decide_eq_true hc)) ho hq hr) (ht hc)
  · exact K.step (fun p e below T c h hx hb0 t hr => XS.ifNo h hx rfl (hb hb0 hd) rfl (q.trans (decide_eq_false hc)) hr) (hf (by omega))
theorem Cx.lcmp_gt (K : Cx l R Z n0 Q own nm bytes maxL ret m G) {o : Int} {x y : Int64} {a b : Int} (hd0 : decode bytes pc = .ok (.lcmp, 1)) (hd : decode bytes (pc + 1) = .ok (.ifCond .gt o, 3)) (hp : pc + 4 = pc1) (ho : 0 ≤ ((pc + 1 : Nat) : Int) + o) (hq : (((pc + 1 : Nat) : Int) + o).toNat = pc2) (ha : x.toInt = a) (hb' : y.toInt = b) (ht : b < a → G h kc ks (mkF m pc2 L S)) (hf : a ≤ b → G h kc ks (mkF m pc1 L S)) : G h kc ks (mkF m pc L (.long y :: .long x :: S)) := by
  subst hp
  have q := lcmpW0 .gt ha hb'
  refine K.step (f' := mkF m (pc + 1) L (.int (if x > y then 1 else if x = y then 0 else -1) :: S)) (fun p e below T c h hx hb0 t hr => XS.lcmp h hx rfl (hb hb0 hd0) rfl hr) ?_
  by_cases hc : b < a
  · exact K.step (fun p e below T c h hx hb0 t hr => XS.ifYes h hx rfl (pc0 := pc + 1) (pc' := pc2) rfl (hb hb0 hd) rfl (q.trans (decide_eq_true hc)) ho hq hr) (ht hc)
  · exact K.step (fun p e below T c h hx hb0 t hr => XS.ifNo h hx rfl (hb hb0 hd) rfl (q.trans (decide_eq_false hc)) hr) (hf (by omega))
theorem Cx.icmp_le (K : Cx l R Z n0 Q own nm bytes maxL ret m G) {o : Int} {x y : Int32} {a b : Int} (hd : decode bytes pc = .ok (.if_icmp .le o, 3)) (hp : pc + 3 = pc1) (ho : 0 ≤ (pc : Int) + o) (hq : ((pc : Int) + o).toNat = pc2) (ha : x.toInt = a) (hb' : y.toInt = b) (ht : a ≤ b → G h kc ks (mkF m pc2 L S)) (hf : b < a → G h kc ks (mkF m pc1 L S)) : G h kc ks (mkF m pc L (.int y :: .int x :: S)) := by
  subst hp
  have q := icmpW .le ha hb'
  by_cases hc : a ≤ b
  · exact K.step (fun p e below T c h hx hb0 t hr => XS.icmpYes h hx rfl (pc0 := pc) (pc' := pc2) rfl (hb hb0 hd) rfl (q.trans (decide_eq_true hc)) ho hq hr) (ht hc)
  · exact K.step (fun p e below T c h hx hb0 t hr => XS.icmpNo h hx rfl (hb hb0 hd) rfl (q.trans (decide_eq_false hc)) hr) (hf (by omega))
theorem Cx.if_le (K : Cx l R Z n0 Q own nm bytes maxL ret m G) {o : Int} {x : Int32} {a : Int} (hd : decode bytes pc = .ok (.ifCond .le o, 3)) (hp : pc + 3 = pc1) (ho : 0 ≤ (pc : Int) + o) (hq : ((pc : Int) + o).toNat = pc2) (ha : x.toInt = a) (ht : a ≤ 0 → G h kc ks (mkF m pc2 L S)) (hf : 0 < a → G h kc ks (mkF m pc1 L S)) : G h kc ks (mkF m pc L (.int x :: S)) := by
  subst hp
  have q := (if0 .le x).trans (icmpW .le ha (b := 0) rfl)
  by_cases hc : a ≤ 0
  · exact K.step (fun p e below T c h hx hb0 t hr => XS.ifYes h hx rfl (pc0 := pc) (pc' := pc2) rfl (hb hb0 hd) rfl (q.trans (decide_eq_true hc)) ho hq hr) (ht hc)
  · exact K.step (fun p e below T c h hx hb0 t hr => XS.ifNo h hx rfl (hb hb0 hd) rfl (q.trans (decide_eq_false hc)) hr) (hf (by omega))
theorem Cx.lcmp_le (K : Cx l R Z n0 Q own nm bytes maxL ret m G) {o : Int} {x y : Int64} {a b : Int} (hd0 : decode bytes pc = .ok (.lcmp, 1)) (hd : decode bytes (pc + 1) = .ok (.ifCond .le o, 3)) (hp : pc + 4 = pc1) (ho : 0 ≤ ((pc + 1 : Nat) : Int) + o) (hq : (((pc + 1 : Nat) : Int) + o).toNat = pc2) (ha : x.toInt = a) (hb' : y.toInt = b) (ht : a ≤ b → G h kc ks (mkF m pc2 L S)) (hf : b < a → G h kc ks (mkF m pc1 L S)) : G h kc ks (mkF m pc L (.long y :: .long x :: S)) := by
  subst hp
  have q := lcmpW0 .le ha hb'
  refine K.step (f' := mkF m (pc + 1) L (.int (if x > y then 1 else if x = y then 0 else -1) :: S)) (fun p e below T c h hx hb0 t hr => XS.lcmp h hx rfl (hb hb0 hd0) rfl hr) ?_
  by_cases hc : a ≤ b
  · exact K.step (fun p e below T c h hx hb0 t hr => XS.ifYes h hx rfl (pc0 := pc + 1) (pc' := pc2) rfl (hb hb0 hd) rfl (q.trans (decide_eq_true hc)) ho hq hr) (ht hc)
  · exact K.step (fun p e below T c h hx hb0 t hr => XS.ifNo h hx rfl (hb hb0 hd) rfl (q.trans (decide_eq_false hc)) hr) (hf (by omega))
theorem Cx.icmp_eq (K : Cx l R Z n0 Q own nm bytes maxL ret m G) {o : Int} {x y : Int32} {a b : Int} (hd : decode bytes pc = .ok (.if_icmp .eq o, 3)) (hp : pc + 3 = pc1) (ho : 0 ≤ (pc : Int) + o) (hq : ((pc : Int) + o).toNat = pc2) (ha : x.toInt = a) (hb' : y.toInt = b) (ht : a = b → G h kc ks (mkF m pc2 L S)) (hf : a ≠ b → G h kc ks (mkF m pc1 L S)) : G h kc ks (mkF m pc L (.int y :: .int x :: S)) := by
  subst hp
  have q := icmpW .eq ha hb'
  by_cases hc : a = b
  · exact K.step (fun p e below T c h hx hb0 t hr => XS.icmpYes h hx rfl (pc0 := pc) (pc' := pc2) rfl (hb hb0 hd) rfl (q.trans (decide_eq_true hc)) ho hq hr) (ht hc)
  · exact K.step (fun p e below T c h hx hb0 t hr => XS.icmpNo h hx rfl (hb hb0 hd) rfl (q.trans (decide_eq_false hc)) hr) (hf (by omega))
theorem Cx.if_eq (K : Cx l R Z n0 Q own nm bytes maxL ret m G) {o : Int} {x : Int32} {a : Int} (hd : decode bytes pc = .ok (.ifCond .eq o, 3)) (hp : pc + 3 = pc1) (ho : 0 ≤ (pc : Int) + o) (hq : ((pc : Int) + o).toNat = pc2) (ha : x.toInt = a) (ht : a = 0 → G h kc ks (mkF m pc2 L S)) (hf : a ≠ 0 → G h kc ks (mkF m pc1 L S)) : G h kc ks (mkF m pc L (.int x :: S)) := by
  subst hp
  have q := (if0 .eq x).trans (icmpW .eq ha (b := 0) rfl)
  by_cases hc : a = 0
  · exact K.step (fun p e below T c h hx hb0 t hr => XS.ifYes h hx rfl (pc0 := pc) (pc' := pc2) rfl (hb hb0 hd) rfl (q.trans (decide_eq_true hc)) ho hq hr) (ht hc)
  · exact K.step (fun p e below T c h hx hb0 t hr => XS.ifNo h hx rfl (hb hb0 hd) rfl (q.trans (decide_eq_false hc)) hr) (hf (by omega))
theorem Cx.lcmp_eq (K : Cx l R Z n0 Q own nm bytes maxL ret m G) {o : Int} {x y : Int64} {a b : Int} (hd0 : decode bytes pc = .ok (.lcmp, 1)) (hd : decode bytes (pc + 1) = .ok (.ifCond .eq o, 3)) (hp : pc + 4 = pc1) (ho : 0 ≤ ((pc + 1 : Nat) : Int) + o) (hq : (((pc + 1 : Nat) : Int) + o).toNat = pc2) (ha : x.toInt = a) (hb' : y.toInt = b) (ht : a = b → G h kc ks (mkF m pc2 L S)) (hf : a ≠ b → G h kc ks (mkF m pc1 L S)) : G h kc ks (mkF m pc L (.long y :: .long x :: S)) := by
  subst hp
  have q := lcmpW0 .eq ha hb'
  refine K.step (f' := mkF m (pc + 1) L (.int (if x > y then 1 else if x = y then 0 else -1) :: S)) (fun p e below T c h hx hb0 t hr => XS.lcmp h hx rfl (hb hb0 hd0) rfl hr) ?_
  by_cases hc : a = b
  · exact K.step (fun p e below T c h hx hb0 t hr => XS.ifYes h hx rfl (pc0 := pc + 1) (pc' := pc2) rfl (hb hb0 hd) rfl (q.trans (decide_eq_true hc)) ho hq hr) (ht hc)
  · exact K.step (fun p e below T c h hx hb0 t hr => XS.ifNo h hx rfl (hb hb0 hd) rfl (q.trans (decide_eq_false hc)) hr) (hf (by omega))
theorem Cx.icmp_ne (K : Cx l R Z n0 Q own nm bytes maxL ret m G) {o : Int} {x y : Int32} {a b : Int} (hd : decode bytes pc = .ok (.if_icmp .ne o, 3)) (hp : pc + 3 = pc1) (ho : 0 ≤ (pc : Int) + o) (hq : ((pc : Int) + o).toNat = pc2) (ha : x.toInt = a) (hb' : y.toInt = b) (ht : a ≠ b → G h kc ks (mkF m pc2 L S)) (hf : a = b → G h kc ks (mkF m pc1 L S)) : G h kc ks (mkF m pc L (.int y :: .int x :: S)) := by
  subst hp
  have q := icmpW .ne ha hb'
  by_cases hc : a ≠ b
  · exact K.step (fun p e below T c h hx hb0 t hr => XS.icmpYes h hx rfl (pc0 := pc) (pc' := pc2) rfl (hb hb0 hd) rfl (q.trans (decide_eq_true hc)) ho hq hr) (ht hc)
  · exact K.step (fun p e below T c h hx hb0 t hr => XS.icmpNo h hx rfl (hb hb0 hd) rfl (q.trans (decide_eq_false hc)) hr) (hf (by omega))
theorem Cx.if_ne (K : Cx l R Z n0 Q own nm bytes maxL ret m G) {o : Int} {x : Int32} {a : Int} (hd : decode bytes pc = .ok (.ifCond .ne o, 3)) (hp : pc + 3 = pc1) (ho : 0 ≤ (pc : Int) + o) (hq : ((pc : Int) + o).toNat = pc2) (ha : x.toInt = a) (ht : a ≠ 0 → G h kc ks (mkF m pc2 L S)) (hf : a = 0 → G h kc ks (mkF m pc1 L S)) : G h kc ks (mkF m pc L (.int x :: S)) := by
  subst hp
  have q := (if0 .ne x).trans (icmpW .ne ha (b := 0) rfl)
  by_cases hc : a ≠ 0
  · exact K.step (fun p e below T c h hx hb0 t hr => XS.ifYes h hx rfl (pc0 := pc) (pc' := pc2) rfl (hb hb0 hd) rfl (q.trans (decide_eq_true hc)) ho hq hr) (ht hc)
  · exact K.step (fun p e below T c h hx hb0 t hr => XS.ifNo h hx rfl (hb hb0 hd) rfl (q.trans (decide_eq_false hc)) hr) (hf (by omega))
theorem Cx.lcmp_ne (K : Cx l R Z n0 Q own nm bytes maxL ret m G) {o : Int} {x y : Int64} {a b : Int} (hd0 : decode bytes pc = .ok (.lcmp, 1)) (hd : decode bytes (pc + 1) = .ok (.ifCond .ne o, 3)) (hp : pc + 4 = pc1) (ho : 0 ≤ ((pc + 1 : Nat) : Int) + o) (hq : (((pc + 1 : Nat) : Int) + o).toNat = pc2) (ha : x.toInt = a) (hb' : y.toInt = b) (ht : a ≠ b → G h kc ks (mkF m pc2 L S)) (hf : a = b → G h kc ks (mkF m pc1 L S)) : G h kc ks (mkF m pc L (.long y :: .long x :: S)) := by
  subst hp
  have q := lcmpW0 .ne ha hb'
  refine K.step (f' := mkF m (pc + 1) L (.int (if x > y then 1 else if x = y then 0 else -1) :: S)) (fun p e below T c h hx hb0 t hr => XS.lcmp h hx rfl (hb hb0 hd0) rfl hr) ?_
  by_cases hc : a ≠ b
  · exact K.step (fun p e below T c h hx hb0 t hr => XS.ifYes h hx rfl (pc0 := pc + 1) (pc' := pc2) rfl (hb hb0 hd) rfl (q.trans (decide_eq_true hc)) ho hq hr) (ht hc)
  · exact K.step (fun p e below T c h hx hb0 t hr => XS.ifNo h hx rfl (hb hb0 hd) rfl (q.trans (decide_eq_false hc)) hr) (hf (by omega))
theorem Cx.ifneB (K : Cx l R Z n0 Q own nm bytes maxL ret m G) {o : Int} {P : Prop} [Decidable P] (hd : decode bytes pc = .ok (.ifCond .ne o, 3)) (hp : pc + 3 = pc1) (ho : 0 ≤ (pc : Int) + o) (hq : ((pc : Int) + o).toNat = pc2) (ht : P → G h kc ks (mkF m pc2 L S)) (hf : ¬ P → G h kc ks (mkF m pc1 L S)) : G h kc ks (mkF m pc L (.int (b2 P) :: S)) :=
  K.if_ne hd hp ho hq rfl (fun q => ht ((b2_ne0 P).mp q)) (fun q => hf ((b2_eq0 P).mp q))
theorem Cx.ifeqB (K : Cx l R Z n0 Q own nm bytes maxL ret m G) {o : Int} {P : Prop} [Decidable P] (hd : decode bytes pc = .ok (.ifCond .eq o, 3)) (hp : pc + 3 = pc1) (ho : 0 ≤ (pc : Int) + o) (hq : ((pc : Int) + o).toNat = pc2) (ht : ¬ P → G h kc ks (mkF m pc2 L S)) (hf : P → G h kc ks (mkF m pc1 L S)) : G h kc ks (mkF m pc L (.int (b2 P) :: S)) :=
  K.if_eq hd hp ho hq rfl (fun q => ht ((b2_eq0 P).mp q)) (fun q => hf ((b2_ne0 P).mp q))
theorem Cx.icmpneB (K : Cx l R Z n0 Q own nm bytes maxL ret m G) {o : Int} {P P' : Prop} [Decidable P] [Decidable P'] (hd : decode bytes pc = .ok (.if_icmp .ne o, 3)) (hp : pc + 3 = pc1) (ho : 0 ≤ (pc : Int) + o) (hq : ((pc : Int) + o).toNat = pc2) (ht : ¬ (P ↔ P') → G h kc ks (mkF m pc2 L S)) (hf : (P ↔ P') → G h kc ks (mkF m pc1 L S)) : G h kc ks (mkF m pc L (.int (b2 P') :: .int (b2 P) :: S)) :=
  K.icmp_ne hd hp ho hq rfl rfl (fun q => ht (fun z => q ((b2_inj P P').mpr z))) (fun q => hf ((b2_inj P P').mp q))
theorem Cx.icmpeqB (K : Cx l R Z n0 Q own nm bytes maxL ret m G) {o : Int} {P P' : Prop} [Decidable P] [Decidable P'] (hd : decode bytes pc = .ok (.if_icmp .eq o, 3)) (hp : pc + 3 = pc1) (ho : 0 ≤ (pc : Int) + o) (hq : ((pc : Int) + o).toNat = pc2) (ht : (P ↔ P') → G h kc ks (mkF m pc2 L S)) (hf : ¬ (P ↔ P') → G h kc ks (mkF m pc1 L S)) : G h kc ks (mkF m pc L (.int (b2 P') :: .int (b2 P) :: S)) :=
  K.icmp_eq hd hp ho hq rfl rfl (fun q => ht ((b2_inj P P').mp q)) (fun q => hf (fun z => q ((b2_inj P P').mpr z)))
theorem Cx.ifnull0 (K : Cx l R Z n0 Q own nm bytes maxL ret m G) {o : Int} (hd : decode bytes pc = .ok (.ifnull o, 3)) (ho : 0 ≤ (pc : Int) + o) (hq : ((pc : Int) + o).toNat = pc2) (hr : G h kc ks (mkF m pc2 L S)) : G h kc ks (mkF m pc L (.null :: S)) :=
  K.step (fun p e below T c h hx hb0 t hr => XS.ifnullYes h hx rfl (pc0 := pc) (pc' := pc2) rfl (hb hb0 hd) rfl ho hq hr) hr
theorem Cx.ifnull1 (K : Cx l R Z n0 Q own nm bytes maxL ret m G) {o : Int} {b : Addr} (hd : decode bytes pc = .ok (.ifnull o, 3)) (hp : pc + 3 = pc') (hr : G h kc ks (mkF m pc' L S)) : G h kc ks (mkF m pc L (.ref b :: S)) := by
  subst hp
  exact K.step (fun p e below T c h hx hb0 t hr => XS.ifnullNo h hx rfl (hb hb0 hd) rfl hr) hr
theorem Cx.ifnonnull1 (K : Cx l R Z n0 Q own nm bytes maxL ret m G) {o : Int} {b : Addr} (hd : decode bytes pc = .ok (.ifnonnull o, 3)) (ho : 0 ≤ (pc : Int) + o) (hq : ((pc : Int) + o).toNat = pc2) (hr : G h kc ks (mkF m pc2 L S)) : G h kc ks (mkF m pc L (.ref b :: S)) :=
  K.step (fun p e below T c h hx hb0 t hr => XS.ifnonnullYes h hx rfl (pc0 := pc) (pc' := pc2) rfl (hb hb0 hd) rfl ho hq hr) hr
theorem Cx.ifnonnull0 (K : Cx l R Z n0 Q own nm bytes maxL ret m G) {o : Int} (hd : decode bytes pc = .ok (.ifnonnull o, 3)) (hp : pc + 3 = pc') (hr : G h kc ks (mkF m pc' L S)) : G h kc ks (mkF m pc L (.null :: S)) := by
  subst hp
  exact K.step (fun p e below T c h hx hb0 t hr => XS.ifnonnullNo h hx rfl (hb hb0 hd) rfl hr) hr
theorem Cx.acmpNe (K : Cx l R Z n0 Q own nm bytes maxL ret m G) {o : Int} {a b : Addr} (hd : decode bytes pc = .ok (.if_acmp .ne o, 3)) (hp : pc + 3 = pc1) (ho : 0 ≤ (pc : Int) + o) (hq : ((pc : Int) + o).toNat = pc2) (ht : a ≠ b → G h kc ks (mkF m pc2 L S)) (hf : a = b → G h kc ks (mkF m pc1 L S)) : G h kc ks (mkF m pc L (.ref b :: .ref a :: S)) := by
  subst hp
  by_cases hc : a = b
  · exact K.step (fun p e below T c h hx hb0 t hr => XS.acmpNo h hx rfl (hb hb0 hd) rfl (by simp [if_acmp.holds, hc]) hr) (hf hc)
  · exact K.step (fun p e below T c h hx hb0 t hr => XS.acmpYes h hx rfl (pc0 := pc) (pc' := pc2) rfl (hb hb0 hd) rfl (by simp [if_acmp.holds, hc]) ho hq hr) (ht hc)
theorem Cx.acmpEq (K : Cx l R Z n0 Q own nm bytes maxL ret m G) {o : Int} {a b : Addr} (hd : decode bytes pc = .ok (.if_acmp .eq o, 3)) (hp : pc + 3 = pc1) (ho : 0 ≤ (pc : Int) + o) (hq : ((pc : Int) + o).toNat = pc2) (ht : a = b → G h kc ks (mkF m pc2 L S)) (hf : a ≠ b → G h kc ks (mkF m pc1 L S)) : G h kc ks (mkF m pc L (.ref b :: .ref a :: S)) := by
  subst hp
  by_cases hc : a = b
  · exact K.step (fun p e below T c h hx hb0 t hr => XS.acmpYes h hx rfl (pc0 := pc) (pc' := pc2) rfl (hb hb0 hd) rfl (by simp [if_acmp.holds, hc]) ho hq hr) (ht hc)
  · exact K.step (fun p e below T c h hx hb0 t hr => XS.acmpNo h hx rfl (hb hb0 hd) rfl (by simp [if_acmp.holds, hc]) hr) (hf hc)
theorem Cx.lsHit (K : Cx l R Z n0 Q own nm bytes maxL ret m G) {dflt : Int} {pairs : Array (Int × Int)} {len : Nat} {k : Int32} {a off : Int} (hd : decode bytes pc = .ok (.lookupswitch dflt pairs, len)) (hsorted : (pairs.toList.zip (pairs.toList.drop 1)).all (fun (a, next) => a.1 < next.1) = true) (hfind : pairs.find? (·.1 == k.toInt) = some (a, off)) (ho : 0 ≤ (pc : Int) + off) (hq : ((pc : Int) + off).toNat = pc2) (hr : G h kc ks (mkF m pc2 L S)) : G h kc ks (mkF m pc L (.int k :: S)) := by
  subst hq
  exact K.stepX (h' := h) (fun p e s args below meth c T locs X eT hx hb0 hown hZ => ⟨T, X, eT, fun t hr => X.lookupswitchHit hx (g := mkF m pc L (.int k :: S)) rfl rfl (hb hb0 hd) hsorted hfind ho _ hr⟩) hr
theorem Cx.lsMiss (K : Cx l R Z n0 Q own nm bytes maxL ret m G) {dflt : Int} {pairs : Array (Int × Int)} {len : Nat} {k : Int32} (hd : decode bytes pc = .ok (.lookupswitch dflt pairs, len)) (hsorted : (pairs.toList.zip (pairs.toList.drop 1)).all (fun (a, next) => a.1 < next.1) = true) (hfind : ∀ p ∈ pairs.toList, p.1 ≠ k.toInt) (ho : 0 ≤ (pc : Int) + dflt) (hq : ((pc : Int) + dflt).toNat = pc2) (hr : G h kc ks (mkF m pc2 L S)) : G h kc ks (mkF m pc L (.int k :: S)) := by
  subst hq
  exact K.stepX (h' := h) (fun p e s args below meth c T locs X eT hx hb0 hown hZ => ⟨T, X, eT, fun t hr => X.lookupswitchMiss hx (g := mkF m pc L (.int k :: S)) rfl rfl (hb hb0 hd) hsorted (find_miss hfind) ho _ hr⟩) hr
theorem Cx.ldcI (K : Cx l R Z n0 Q own nm bytes maxL ret m G) {index : Nat} {v : Int32} (hd : decode bytes pc = .ok (.ldc index, 2)) (hp : pc + 2 = pc') (w : (Cond.constant own index v).before a0 Z = true) (hr : G h kc ks (mkF m pc' L (.int v :: S))) : G h kc ks (mkF m pc L S) := by
  subst hp
  exact K.stepX (h' := h) (fun p e s args below meth c T locs X eT hx hb0 hown hZ => ⟨T, X, eT, X.ldcInt hx hown (mvT hZ w) (g := mkF m pc L S) rfl (hb hb0 hd)⟩) hr
theorem Cx.ldcwI (K : Cx l R Z n0 Q own nm bytes maxL ret m G) {index : Nat} {v : Int32} (hd : decode bytes pc = .ok (.ldc_w index, 3)) (hp : pc + 3 = pc') (w : (Cond.constant own index v).before a0 Z = true) (hr : G h kc ks (mkF m pc' L (.int v :: S))) : G h kc ks (mkF m pc L S) := by
  subst hp
  exact K.stepX (h' := h) (fun p e s args below meth c T locs X eT hx hb0 hown hZ => ⟨T, X, eT, X.ldcwInt hx hown (mvT hZ w) (g := mkF m pc L S) rfl (hb hb0 hd)⟩) hr
theorem Cx.ldc2J (K : Cx l R Z n0 Q own nm bytes maxL ret m G) {index : Nat} {v : Int64} (hd : decode bytes pc = .ok (.ldc2_w index, 3)) (hp : pc + 3 = pc') (w : (Cond.constantLong own index v).before a0 Z = true) (hr : G h kc ks (mkF m pc' L (.long v :: S))) : G h kc ks (mkF m pc L S) := by
  subst hp
  exact K.stepX (h' := h) (fun p e s args below meth c T locs X eT hx hb0 hown hZ => ⟨T, X, eT, X.ldc2Long hx hown (mvT hZ w) (g := mkF m pc L S) rfl (hb hb0 hd)⟩) hr
theorem Cx.ldc2D (K : Cx l R Z n0 Q own nm bytes maxL ret m G) {index : Nat} {v : UInt64} (hd : decode bytes pc = .ok (.ldc2_w index, 3)) (hp : pc + 3 = pc') (w : (Cond.constantDouble own index v).before a0 Z = true) (hr : G h kc ks (mkF m pc' L (.double v :: S))) : G h kc ks (mkF m pc L S) := by
  subst hp
  exact K.stepX (h' := h) (fun p e s args below meth c T locs X eT hx hb0 hown hZ => ⟨T, X, eT, X.ldc2DoubleC hx hown (mvT hZ w) (g := mkF m pc L S) rfl (hb hb0 hd)⟩) hr
theorem Cx.getf (K : Cx l R Z n0 Q own nm bytes maxL ret m G) {R0 O n d host : String} {index : Nat} {a : Addr} {v : Value} (hd : decode bytes pc = .ok (.getfield index, 3)) (hp : pc + 3 = pc') (w : (Cond.fieldLink own index R0 n d).before a0 Z = true ∨ (Cond.fieldLinkNest own index R0 n d host).before a0 Z = true) (via : Via Z R0 O n d) (F : Fld Z h a O n d v) (hr : G h kc ks (mkF m pc' L (v :: S))) : G h kc ks (mkF m pc L (.ref a :: S)) := by
  subst hp
  exact K.stepX (h' := h) (fun p e s args below meth c T locs X eT hx hb0 hown hZ => RoadKit.getF X hx hZ hown w via eT F (g := mkF m pc L (.ref a :: S)) rfl rfl (hb hb0 hd)) hr
theorem Cx.gets (K : Cx l R Z n0 Q own nm bytes maxL ret m G) {R0 O n d host : String} {index : Nat} {v : Value} (hd : decode bytes pc = .ok (.getstatic index, 3)) (hp : pc + 3 = pc') (w : (Cond.fieldLink own index R0 n d).before a0 Z = true ∨ (Cond.fieldLinkNest own index R0 n d host).before a0 Z = true) (via : Via Z R0 O n d) (F : Sta Z h O n d v) (hr : G h kc ks (mkF m pc' L (v :: S))) : G h kc ks (mkF m pc L S) := by
  subst hp
  exact K.stepX (h' := h) (fun p e s args below meth c T locs X eT hx hb0 hown hZ => RoadKit.getS2 X hx hZ hown w via eT F (g := mkF m pc L S) rfl (hb hb0 hd)) hr
theorem Cx.putf (K : Cx l R Z n0 Q own nm bytes maxL ret m G) {R0 O n d host C : String} {index kk : Nat} {ty : FieldType} {a : Addr} {v old : Value} (hd : decode bytes pc = .ok (.putfield index, 3)) (hp : pc + 3 = pc') (w : (Cond.fieldLink own index R0 n d).before a0 Z = true ∨ (Cond.fieldLinkNest own index R0 n d host).before a0 Z = true) (via : Via Z R0 O n d) (F : Fld Z h a O n d old) (E : Exa Z h a C)
    (LL : (Cond.lays C O n d).before a0 Z = true ∨ ((Cond.laysFinal C O n d).before a0 Z = true ∧ own = O ∧ nm = "<init>")) (wi : (Cond.instantiable C kk).before a0 Z = true) (hty : parseFieldDescriptor d = some ty) (hn : narrow ty v = v) (hf : fits ty v = true) (ga : n0 ≤ a)
    (hr : ∀ h', Wr h h' a (Jvm.RoadKit.slotOf Z O n d) v → G h' kc ks (mkF m pc' L S)) : G h kc ks (mkF m pc L (v :: .ref a :: S)) := by
  obtain ⟨p, e, s, args, below, meth, c, rfl, hx, hby, hml, hown, hZ, hret, hlk, hnm⟩ := K
  subst hp
  intro T locs X eT N
  obtain ⟨T', h', X', e', W, st⟩ := RoadKit.putF X hx hZ hown w via eT F E (LL.imp id fun q => ⟨q.1, q.2.1, hnm.trans q.2.2⟩) wi hty hn hf (g := mkF m pc L (v :: .ref a :: S)) rfl rfl (hb hby hd)
  obtain ⟨s₂, o, h1, h2⟩ := hr h' W T' _ X' e' (Fr.snoc X' N ga)
  exact ⟨s₂, o, st _ h1, h2⟩
theorem Cx.newo (K : Cx l R Z n0 Q own nm bytes maxL ret m G) {C : String} {index n : Nat} (hd : decode bytes pc = .ok (.new index, 3)) (hp : pc + 3 = pc') (w : (Cond.classLink own index C).before a0 Z = true) (wi : (Cond.instantiable C n).before a0 Z = true) (wz : (Cond.initialized C).before a0 Z = true) (hc : kc + 1 ≤ R.cells) (hl : ks + n ≤ R.slots)
    (hr : ∀ h' a, a = h.size → Ext h h' → Exa Z h' a C → (∀ {O nm d : String} {ty : FieldType}, Laid Z a0 C O nm d → parseFieldDescriptor d = some ty → Fld Z h' a O nm d (defaultValue ty)) → G h' (kc + 1) (ks + n) (mkF m pc' L (.ref a :: S))) : G h kc ks (mkF m pc L S) := by
  obtain ⟨p, e, s, args, below, meth, c, rfl, hx, hby, hml, hown, hZ, hret, hlk, hnm⟩ := K
  subst hp
  intro T locs X eT N
  obtain ⟨T', h', X', e', E, A, D, -, st⟩ := RoadKit.newO X hx hZ hown w wi wz eT (g := mkF m pc L S) rfl (hb hby hd) hc hl
  obtain ⟨s₂, o, h1, h2⟩ := hr h' _ rfl E A D T' _ X' e' N
  exact ⟨s₂, o, st _ h1, h2⟩
theorem Cx.newa (K : Cx l R Z n0 Q own nm bytes maxL ret m G) {aty : ArrayType} {n : Int32} {k cap : Nat} (hd : decode bytes pc = .ok (.newarray aty, 2)) (hp : pc + 2 = pc') (w : (Cond.arrayClass (newarray.typeOf aty)).before a0 Z = true) (hn : n.toInt = (k : Nat)) (hk : k ≤ cap) (hbig : cap * 8 ≤ 536870912) (hc : kc + 1 ≤ R.cells) (hl : ks + cap ≤ R.slots) {ad : String} (had : "[" ++ (newarray.typeOf aty).toString = ad)
    (hr : ∀ h' a, a = h.size → Ext h h' → Ary Z h' a (newarray.typeOf aty) (List.replicate k (defaultValue (newarray.typeOf aty))) → Exa Z h' a ad → G h' (kc + 1) (ks + cap) (mkF m pc' L (.ref a :: S))) : G h kc ks (mkF m pc L (.int n :: S)) := by
  obtain ⟨p, e, s, args, below, meth, c, rfl, hx, hby, hml, hown, hZ, hret, hlk, hnm⟩ := K
  subst hp
  intro T locs X eT N
  have hn0 : ¬ n < 0 := by rw [Int32.lt_iff_toInt_lt, hn, show (0 : Int32).toInt = 0 from rfl]; omega
  obtain ⟨T', h', cA, X', e', E, A, EX, st⟩ := RoadKit.newPE X hx hZ w eT (g := mkF m pc L (.int n :: S)) rfl (hb hby hd) rfl hn0 (cap := cap) (by rw [clamp_of hn]; exact hk) hbig hc hl had
  obtain ⟨s₂, o, h1, h2⟩ := hr h' _ rfl E ⟨_, A, by simp [newA, clamp_of hn], by rw [List.length_replicate]; have := n.toInt_lt; omega⟩ EX T' _ X' e' N
  exact ⟨s₂, o, st _ h1, h2⟩
theorem Cx.iald (K : Cx l R Z n0 Q own nm bytes maxL ret m G) {a : Addr} {vs : List Value} {j : Int32} {i : Nat} {v : Value} (hd : decode bytes pc = .ok (.iaload, 1)) (hp : pc + 1 = pc') (A : Ary Z h a .int vs) (hj : j.toInt = (i : Nat)) (hv : vs[i]? = some v) (hr : G h kc ks (mkF m pc' L (v :: S))) : G h kc ks (mkF m pc L (.int j :: .ref a :: S)) := by
  subst hp
  obtain ⟨cl, Ar, rfl, hlt⟩ := A
  have hi : i < cl.slots.toList.length := (List.getElem?_eq_some_iff.mp hv).1
  exact K.stepX (h' := h) (fun p e s args below meth c T locs X eT hx hb0 hown hZ => ⟨T, X, eT, fun t hr => X.iaload hx (j := j) (v := v) (by rw [eT]; exact Ar.1) (State.isArrayOf_alike hZ.alike Ar.2.1) Ar.2.2 (in_of hj hi) (at_of hj hv) (g := mkF m pc L (.int j :: .ref a :: S)) rfl rfl (hb hb0 hd) _ hr⟩) hr
theorem Cx.lald (K : Cx l R Z n0 Q own nm bytes maxL ret m G) {a : Addr} {vs : List Value} {j : Int32} {i : Nat} {v : Value} (hd : decode bytes pc = .ok (.laload, 1)) (hp : pc + 1 = pc') (A : Ary Z h a .long vs) (hj : j.toInt = (i : Nat)) (hv : vs[i]? = some v) (hr : G h kc ks (mkF m pc' L (v :: S))) : G h kc ks (mkF m pc L (.int j :: .ref a :: S)) := by
  subst hp
  obtain ⟨cl, Ar, rfl, hlt⟩ := A
  have hi : i < cl.slots.toList.length := (List.getElem?_eq_some_iff.mp hv).1
  exact K.stepX (h' := h) (fun p e s args below meth c T locs X eT hx hb0 hown hZ => ⟨T, X, eT, fun t hr => X.laload hx (j := j) (v := v) (by rw [eT]; exact Ar.1) (State.isArrayOf_alike hZ.alike Ar.2.1) Ar.2.2 (in_of hj hi) (at_of hj hv) (g := mkF m pc L (.int j :: .ref a :: S)) rfl rfl (hb hb0 hd) _ hr⟩) hr
theorem Cx.cald (K : Cx l R Z n0 Q own nm bytes maxL ret m G) {a : Addr} {vs : List Value} {j : Int32} {i : Nat} {v : Value} (hd : decode bytes pc = .ok (.caload, 1)) (hp : pc + 1 = pc') (A : Ary Z h a .char vs) (hj : j.toInt = (i : Nat)) (hv : vs[i]? = some v) (hr : G h kc ks (mkF m pc' L (v :: S))) : G h kc ks (mkF m pc L (.int j :: .ref a :: S)) := by
  subst hp
  obtain ⟨cl, Ar, rfl, hlt⟩ := A
  have hi : i < cl.slots.toList.length := (List.getElem?_eq_some_iff.mp hv).1
  exact K.stepX (h' := h) (fun p e s args below meth c T locs X eT hx hb0 hown hZ => ⟨T, X, eT, fun t hr => X.caload hx (j := j) (v := v) (by rw [eT]; exact Ar.1) (State.isArrayOf_alike hZ.alike Ar.2.1) Ar.2.2 (in_of hj hi) (at_of hj hv) (g := mkF m pc L (.int j :: .ref a :: S)) rfl rfl (hb hb0 hd) _ hr⟩) hr
theorem Cx.bald (K : Cx l R Z n0 Q own nm bytes maxL ret m G) {a : Addr} {vs : List Value} {j : Int32} {i : Nat} {v : Value} (hd : decode bytes pc = .ok (.baload, 1)) (hp : pc + 1 = pc') (A : Ary Z h a .byte vs) (hj : j.toInt = (i : Nat)) (hv : vs[i]? = some v) (hr : G h kc ks (mkF m pc' L (v :: S))) : G h kc ks (mkF m pc L (.int j :: .ref a :: S)) := by
  subst hp
  obtain ⟨cl, Ar, rfl, hlt⟩ := A
  have hi : i < cl.slots.toList.length := (List.getElem?_eq_some_iff.mp hv).1
  exact K.stepX (h' := h) (fun p e s args below meth c T locs X eT hx hb0 hown hZ => ⟨T, X, eT, fun t hr => X.baloadBytes hx (j := j) (v := v) (by rw [eT]; exact Ar.1) (State.isArrayOf_alike hZ.alike Ar.2.1) Ar.2.2 (in_of hj hi) (at_of hj hv) (g := mkF m pc L (.int j :: .ref a :: S)) rfl rfl (hb hb0 hd) _ hr⟩) hr
theorem Cx.alen (K : Cx l R Z n0 Q own nm bytes maxL ret m G) {a : Addr} {vs : List Value} {ty : FieldType} (hd : decode bytes pc = .ok (.arraylength, 1)) (hp : pc + 1 = pc') (A : Ary Z h a ty vs) (hr : ∀ z : Int32, z.toInt = (vs.length : Nat) → G h kc ks (mkF m pc' L (.int z :: S))) : G h kc ks (mkF m pc L (.ref a :: S)) := by
  subst hp
  obtain ⟨cl, Ar, rfl, hlt⟩ := A
  refine K.stepX (h' := h) (f' := mkF m (pc + 1) L (.int cl.slots.size.toInt32 :: S)) (fun p e s args below meth c T locs X eT hx hb0 hown hZ => ⟨T, X, eT, fun t hr => X.arraylength hx (by rw [eT]; exact Ar.1) (State.isArrayOf_alike hZ.alike Ar.2.1) (g := mkF m pc L (.ref a :: S)) rfl rfl (hb hb0 hd) _ hr⟩) (hr _ ?_)
  rw [Array.length_toList] at hlt ⊢
  exact len_int hlt
theorem Cx.iast (K : Cx l R Z n0 Q own nm bytes maxL ret m G) {a : Addr} {vs : List Value} {j : Int32} {x : Int32} {i : Nat} (hd : decode bytes pc = .ok (.iastore, 1)) (hp : pc + 1 = pc') (A : Ary Z h a .int vs) (hj : j.toInt = (i : Nat)) (hi : i < vs.length) (ga : n0 ≤ a) (hr : ∀ h', Wr h h' a i (.int x) → Ary Z h' a .int (vs.set i (.int x)) → G h' kc ks (mkF m pc' L S)) : G h kc ks (mkF m pc L (.int x :: .int j :: .ref a :: S)) := by
  obtain ⟨p, e, s, args, below, meth, c, rfl, hx, hby, hml, hown, hZ, hret, hlk, hnm⟩ := K
  subst hp
  intro T locs X eT N
  have A0 := A
  obtain ⟨cl, Ar, rfl, hlt⟩ := A
  obtain ⟨T', h', X', e', W, st⟩ := RoadKit.stI X hx hZ eT Ar (j := j) (in_of hj hi) (g := mkF m pc L (.int x :: .int j :: .ref a :: S)) rfl rfl (hb hby hd)
  have W' := W
  rw [clamp_of hj] at W'
  obtain ⟨s₂, o, h1, h2⟩ := hr h' W' (A0.same W') T' _ X' e' (Fr.snoc X' N ga)
  exact ⟨s₂, o, st _ h1, h2⟩
theorem Cx.last (K : Cx l R Z n0 Q own nm bytes maxL ret m G) {a : Addr} {vs : List Value} {j : Int32} {x : Int64} {i : Nat} (hd : decode bytes pc = .ok (.lastore, 1)) (hp : pc + 1 = pc') (A : Ary Z h a .long vs) (hj : j.toInt = (i : Nat)) (hi : i < vs.length) (ga : n0 ≤ a) (hr : ∀ h', Wr h h' a i (.long x) → Ary Z h' a .long (vs.set i (.long x)) → G h' kc ks (mkF m pc' L S)) : G h kc ks (mkF m pc L (.long x :: .int j :: .ref a :: S)) := by
  obtain ⟨p, e, s, args, below, meth, c, rfl, hx, hby, hml, hown, hZ, hret, hlk, hnm⟩ := K
  subst hp
  intro T locs X eT N
  have A0 := A
  obtain ⟨cl, Ar, rfl, hlt⟩ := A
  obtain ⟨T', h', X', e', W, st⟩ := RoadKit.stJ X hx hZ eT Ar (j := j) (in_of hj hi) (g := mkF m pc L (.long x :: .int j :: .ref a :: S)) rfl rfl (hb hby hd)
  have W' := W
  rw [clamp_of hj] at W'
  obtain ⟨s₂, o, h1, h2⟩ := hr h' W' (A0.same W') T' _ X' e' (Fr.snoc X' N ga)
  exact ⟨s₂, o, st _ h1, h2⟩
theorem Cx.cast_ (K : Cx l R Z n0 Q own nm bytes maxL ret m G) {a : Addr} {vs : List Value} {j : Int32} {x : Int32} {i : Nat} (hd : decode bytes pc = .ok (.castore, 1)) (hp : pc + 1 = pc') (A : Ary Z h a .char vs) (hj : j.toInt = (i : Nat)) (hi : i < vs.length) (ga : n0 ≤ a) (hr : ∀ h', Wr h h' a i (.int (nar .char x)) → Ary Z h' a .char (vs.set i (.int (nar .char x))) → G h' kc ks (mkF m pc' L S)) : G h kc ks (mkF m pc L (.int x :: .int j :: .ref a :: S)) := by
  obtain ⟨p, e, s, args, below, meth, c, rfl, hx, hby, hml, hown, hZ, hret, hlk, hnm⟩ := K
  subst hp
  intro T locs X eT N
  have A0 := A
  obtain ⟨cl, Ar, rfl, hlt⟩ := A
  obtain ⟨T', h', X', e', W, st⟩ := RoadKit.stC X hx hZ eT Ar (j := j) (in_of hj hi) (g := mkF m pc L (.int x :: .int j :: .ref a :: S)) rfl rfl (hb hby hd)
  have W' := W
  rw [clamp_of hj] at W'
  obtain ⟨s₂, o, h1, h2⟩ := hr h' W' (A0.same W') T' _ X' e' (Fr.snoc X' N ga)
  exact ⟨s₂, o, st _ h1, h2⟩
theorem Cx.bast (K : Cx l R Z n0 Q own nm bytes maxL ret m G) {a : Addr} {vs : List Value} {j : Int32} {x : Int32} {i : Nat} (hd : decode bytes pc = .ok (.bastore, 1)) (hp : pc + 1 = pc') (A : Ary Z h a .byte vs) (hj : j.toInt = (i : Nat)) (hi : i < vs.length) (ga : n0 ≤ a) (hr : ∀ h', Wr h h' a i (.int (nar .byte x)) → Ary Z h' a .byte (vs.set i (.int (nar .byte x))) → G h' kc ks (mkF m pc' L S)) : G h kc ks (mkF m pc L (.int x :: .int j :: .ref a :: S)) := by
  obtain ⟨p, e, s, args, below, meth, c, rfl, hx, hby, hml, hown, hZ, hret, hlk, hnm⟩ := K
  subst hp
  intro T locs X eT N
  have A0 := A
  obtain ⟨cl, Ar, rfl, hlt⟩ := A
  obtain ⟨T', h', X', e', W, st⟩ := RoadKit.stB X hx hZ eT Ar (j := j) (in_of hj hi) (g := mkF m pc L (.int x :: .int j :: .ref a :: S)) rfl rfl (hb hby hd)
  have W' := W
  rw [clamp_of hj] at W'
  obtain ⟨s₂, o, h1, h2⟩ := hr h' W' (A0.same W') T' _ X' e' (Fr.snoc X' N ga)
  exact ⟨s₂, o, st _ h1, h2⟩
theorem Cx.init0 (K : Cx l R Z n0 Q own nm bytes maxL ret m G) {idx W : Nat} {a : Addr} (hd : decode bytes pc = .ok (.invokespecial idx, 3)) (hp : pc + 3 = pc') (w1 : (Cond.methodLink own idx Lib.objectInit).before a0 Z = true) (w2 : (Cond.instanceMethod Lib.objectInit).before a0 Z = true) (w3 : (Cond.code Lib.objectInit ⟨#[0xb1]⟩ 1 none).before a0 Z = true) (hL : L.size = maxL) (hf : 1 ≤ R.frames) (hW : (S.map fun v => v.category).sum ≤ W) (hl : W + 12 ≤ R.locals)
    (hr : G h kc ks (mkF m pc' L S)) : G h kc ks (mkF m pc L (.ref a :: S)) := by
  obtain ⟨p, e, s, args, below, meth, c, rfl, hx, hby, hml, hown, hZ, hret, hlk, hnm⟩ := K
  subst hp
  intro T locs X eT N
  obtain ⟨T', X', e', st⟩ := RoadKit.initO X hx hZ hown w1 w2 w3 eT (g := mkF m pc L (.ref a :: S)) rfl (by rw [hml]; exact hL) rfl (hb hby hd) hf (W := W) (by show 2 * 0 + _ ≤ _; omega) hl
  obtain ⟨s₂, o, h1, h2⟩ := hr T' _ X' e' N
  exact ⟨s₂, o, st _ h1, h2⟩
theorem Cx.calls (K : Cx l R Z n0 Q own nm bytes maxL ret m G) {y : MethodName} {b' : ByteArray} {ml' : Nat} {rt' r : Option FieldType} {rm : Room} {Qc : Option Value → Heap → Prop} {index : Nat} {argsL rest : List Value} {W : Nat} {ps : List FieldType} (hd : decode bytes pc = .ok (.invokestatic index, 3)) (hp : pc + 3 = pc') (M : MeetsW l Z n0 y b' ml' rt' rm argsL.toArray h Qc) (w1 : (Cond.methodLink own index y).before a0 Z = true) (w2 : (Cond.static y).before a0 Z = true) (w3 : (Cond.initialized y.cls).before a0 Z = true) (w4 : (Cond.code y b' ml' rt').before a0 Z = true) (hy : y.cls ≠ "java/lang/invoke/MethodHandle" ∧ y.cls ≠ "java/lang/invoke/VarHandle") (hpd : parseMethodDescriptor y.desc = some ⟨ps, r⟩) (hlen : argsL.length = ps.length) (hL : L.size = maxL) (hW : (rest.map fun v => v.category).sum ≤ W) (hf : rm.frames + 1 ≤ R.frames) (hl : W + (ml' + 11) + rm.locals ≤ R.locals) (hc : kc + rm.cells ≤ R.cells) (hsl : ks + rm.slots ≤ R.slots) (hr : ∀ v h', Qc v h' → G h' (kc + rm.cells) (ks + rm.slots) (mkF m pc' L (v.toList ++ rest))) : G h kc ks (mkF m pc L (argsL.reverse ++ rest)) := by
  obtain ⟨p, e, s, args, below, meth, c, rfl, hx, hby, hml, hown, hZ, hret, hlk, hnm⟩ := K
  subst hp
  intro T locs X eT N
  obtain ⟨v, _, ⟨T', Lo, ko, no⟩, -, X', ⟨Lc, hQ, l', y', z'⟩, st⟩ := Jvm.LawKit.callS X hx (y := y) hown (mvT hZ w1) (mvT hZ w2) (mvT hZ w3) (mvT hZ w4) hy (backOf (Q := fun v h L => Qc v h ∧ Fr n0 L) (W := W) (M []) hZ w4 w3 hf hl) (g := mkF m pc L (argsL.reverse ++ rest)) rfl (by rw [hml]; exact hL) (argsL := argsL) (rest := rest) (lenOf hpd hlen) rfl (by show 2 * 0 + _ ≤ _; omega) (hb hby hd) (fun _ _ => ⟨rfl, eT, hc, hsl⟩)
  dsimp only [Pt.U, Pt.locs, Pt.cells, Pt.slots] at X' l' y' z' st hQ
  subst l' y' z'
  obtain ⟨s₂, o, h1, h2⟩ := hr v T'.heap hQ.1 T' _ X' rfl (Fr.app N hQ.2)
  exact ⟨s₂, o, st _ h1, h2⟩
theorem Cx.callc (K : Cx l R Z n0 Q own nm bytes maxL ret m G) {y : MethodName} {b' : ByteArray} {ml' : Nat} {r : Option FieldType} {rm : Room} {Qc : Option Value → Heap → Prop} {index : Nat} {argsL rest : List Value} {W : Nat} {ps : List FieldType} {a : Addr} (hd : decode bytes pc = .ok (.invokespecial index, 3)) (hp : pc + 3 = pc') (hi : y.name = "<init>") (M : MeetsW l Z n0 y b' ml' none rm (Value.ref a :: argsL).toArray h Qc) (w1 : (Cond.methodLink own index y).before a0 Z = true) (w2 : (Cond.instanceMethod y).before a0 Z = true) (w3 : (Cond.initialized y.cls).before a0 Z = true) (w4 : (Cond.code y b' ml' none).before a0 Z = true) (hy : y.cls ≠ "java/lang/invoke/MethodHandle" ∧ y.cls ≠ "java/lang/invoke/VarHandle") (hpd : parseMethodDescriptor y.desc = some ⟨ps, r⟩) (hlen : argsL.length = ps.length) (hL : L.size = maxL) (hW : (rest.map fun v => v.category).sum ≤ W) (hf : rm.frames + 1 ≤ R.frames) (hl : W + (ml' + 11) + rm.locals ≤ R.locals) (hc : kc + rm.cells ≤ R.cells) (hsl : ks + rm.slots ≤ R.slots) (hr : ∀ v h', Qc v h' → G h' (kc + rm.cells) (ks + rm.slots) (mkF m pc' L (v.toList ++ rest))) : G h kc ks (mkF m pc L (argsL.reverse ++ .ref a :: rest)) := by
  obtain ⟨p, e, s, args, below, meth, c, rfl, hx, hby, hml, hown, hZ, hret, hlk, hnm⟩ := K
  subst hp
  intro T locs X eT N
  obtain ⟨v, _, ⟨T', Lo, ko, no⟩, -, X', ⟨Lc, hQ, l', y', z'⟩, st⟩ := X.specialBack hx (y := y) hi hown (mvT hZ w1) (mvT hZ w2) (mvT hZ w4) hy (backOf (Q := fun v h L => Qc v h ∧ Fr n0 L) (W := W) (M []) hZ w4 w3 hf hl) (g := mkF m pc L (argsL.reverse ++ .ref a :: rest)) rfl (by rw [hml]; exact hL) (Steps.refl _) (a := a) (argsL := argsL) (rest := rest) (lenOf hpd hlen) rfl (by show 2 * 0 + _ ≤ _; omega) (hb hby hd) (fun _ _ => ⟨rfl, eT, hc, hsl⟩)
  dsimp only [Pt.U, Pt.locs, Pt.cells, Pt.slots] at X' l' y' z' st hQ
  subst l' y' z'
  obtain ⟨s₂, o, h1, h2⟩ := hr v T'.heap hQ.1 T' _ X' rfl (Fr.app N hQ.2)
  exact ⟨s₂, o, st.trans h1, h2⟩
theorem Cx.callv (K : Cx l R Z n0 Q own nm bytes maxL ret m G) {y z : MethodName} {b' : ByteArray} {ml' : Nat} {rt' r : Option FieldType} {rm : Room} {Qc : Option Value → Heap → Prop} {index : Nat} {argsL rest : List Value} {W : Nat} {ps : List FieldType} {C : String} {a : Addr} (hd : decode bytes pc = .ok (.invokevirtual index, 3)) (hp : pc + 3 = pc') (M : MeetsW l Z n0 z b' ml' rt' rm (Value.ref a :: argsL).toArray h Qc) (E : Exa Z h a C) (w1 : (Cond.methodLink own index y).before a0 Z = true) (w5 : (Cond.declares y).before a0 Z = true) (nf : ∀ s : State, Z.Warmed39 s.vm → NotFace s y) (w6 : (Cond.selects C y z).before a0 Z = true) (w2 : (Cond.instanceMethod z).before a0 Z = true) (w3 : (Cond.initialized z.cls).before a0 Z = true) (w4 : (Cond.code z b' ml' rt').before a0 Z = true) (hy : y.cls ≠ "java/lang/invoke/MethodHandle" ∧ y.cls ≠ "java/lang/invoke/VarHandle") (hpd : parseMethodDescriptor y.desc = some ⟨ps, r⟩) (hlen : argsL.length = ps.length) (hL : L.size = maxL) (hW : (rest.map fun v => v.category).sum ≤ W) (hf : rm.frames + 1 ≤ R.frames) (hl : W + (ml' + 11) + rm.locals ≤ R.locals) (hc : kc + rm.cells ≤ R.cells) (hsl : ks + rm.slots ≤ R.slots) (hr : ∀ v h', Qc v h' → G h' (kc + rm.cells) (ks + rm.slots) (mkF m pc' L (v.toList ++ rest))) : G h kc ks (mkF m pc L (argsL.reverse ++ .ref a :: rest)) := by
  obtain ⟨p, e, s, args, below, meth, c, rfl, hx, hby, hml, hown, hZ, hret, hlk, hnm⟩ := K
  subst hp
  intro T locs X eT N
  obtain ⟨cq, kq, qa, qb, qc⟩ := isOf hZ eT E
  obtain ⟨v, _, ⟨T', Lo, ko, no⟩, -, X', ⟨Lc, hQ, l', y', z'⟩, st⟩ := X.virtualBack hx (y := y) (z := z) hown (mvT hZ w1) (mvT hZ w5) (nf s hZ) (mvT hZ w6) (mvT hZ w2) hy (backOf (Q := fun v h L => Qc v h ∧ Fr n0 L) (W := W) (M []) hZ w4 w3 hf hl) qa qc (g := mkF m pc L (argsL.reverse ++ .ref a :: rest)) rfl (by rw [hml]; exact hL) (Steps.refl _) (argsL := argsL) (rest := rest) (lenOf hpd hlen) rfl (by show 2 * 0 + _ ≤ _; omega) (hb hby hd) (fun _ _ => ⟨rfl, eT, hc, hsl⟩)
  dsimp only [Pt.U, Pt.locs, Pt.cells, Pt.slots] at X' l' y' z' st hQ
  subst l' y' z'
  obtain ⟨s₂, o, h1, h2⟩ := hr v T'.heap hQ.1 T' _ X' rfl (Fr.app N hQ.2)
  exact ⟨s₂, o, st.trans h1, h2⟩
theorem nf_sel {y z : MethodName} {C : String} (w : (Cond.selects C y z).before a0 Z = true) (hyz : y = z) : ∀ s : State, Z.Warmed39 s.vm → NotFace s y := fun s hZ => by subst hyz; exact notFace_of_selects (args := #[]) (mvT hZ w)
theorem Cx.callp (K : Cx l R Z n0 Q own nm bytes maxL ret m G) {y : MethodName} {b' : ByteArray} {ml' : Nat} {rt' r : Option FieldType} {rm : Room} {Qc : Option Value → Heap → Prop} {index : Nat} {argsL rest : List Value} {W : Nat} {ps : List FieldType} {C : String} {a : Addr} (hd : decode bytes pc = .ok (.invokevirtual index, 3)) (hp : pc + 3 = pc') (M : MeetsW l Z n0 y b' ml' rt' rm (Value.ref a :: argsL).toArray h Qc) (E : Exa Z h a C) (w1 : (Cond.methodLink own index y).before a0 Z = true) (w2 : (Cond.instanceMethod y).before a0 Z = true) {kk : Nat} (wi : (Cond.instantiable y.cls kk).before a0 Z = true) (w7 : (Cond.privateMethod y).before a0 Z = true) (w3 : (Cond.initialized y.cls).before a0 Z = true) (w4 : (Cond.code y b' ml' rt').before a0 Z = true) (hy : y.cls ≠ "java/lang/invoke/MethodHandle" ∧ y.cls ≠ "java/lang/invoke/VarHandle") (hpd : parseMethodDescriptor y.desc = some ⟨ps, r⟩) (hlen : argsL.length = ps.length) (hL : L.size = maxL) (hW : (rest.map fun v => v.category).sum ≤ W) (hf : rm.frames + 1 ≤ R.frames) (hl : W + (ml' + 11) + rm.locals ≤ R.locals) (hc : kc + rm.cells ≤ R.cells) (hsl : ks + rm.slots ≤ R.slots) (hr : ∀ v h', Qc v h' → G h' (kc + rm.cells) (ks + rm.slots) (mkF m pc' L (v.toList ++ rest))) : G h kc ks (mkF m pc L (argsL.reverse ++ .ref a :: rest)) := by
  obtain ⟨p, e, s, args, below, meth, c, rfl, hx, hby, hml, hown, hZ, hret, hlk, hnm⟩ := K
  subst hp
  intro T locs X eT N
  obtain ⟨cq, q1, q2⟩ := E.cell
  have hpriv : s.PrivateAt y := Cond.privateMethod_at (mvP hZ w7 (args := #[]))
  obtain ⟨c0, k0, i1, i2, i3, i4, -⟩ := Cond.instantiable_spec (show (Cond.instantiable y.cls kk).before args s = true from mvT hZ wi)
  have w6 : (Cond.selects y.cls y y).before args s = true := selects_self_of_private i1 i2 (by simp only [Bool.or_eq_false_iff] at i4; exact i4.1) hpriv (mvT hZ w2) hy
  obtain ⟨v, _, ⟨T', Lo, ko, no⟩, -, X', ⟨Lc, hQ, l', y', z'⟩, st⟩ := X.privateBack hx (y := y) hown (mvT hZ w1) (mvT hZ w2) w6 hpriv (mvT hZ w4) hy (backOf (Q := fun v h L => Qc v h ∧ Fr n0 L) (W := W) (M []) hZ w4 w3 hf hl) (g := mkF m pc L (argsL.reverse ++ .ref a :: rest)) rfl (by rw [hml]; exact hL) (Steps.refl _) (a := a) (by rw [eT]; exact q1) q2 (argsL := argsL) (rest := rest) (lenOf hpd hlen) rfl (by show 2 * 0 + _ ≤ _; omega) (hb hby hd) (fun _ _ => ⟨rfl, eT, hc, hsl⟩)
  dsimp only [Pt.U, Pt.locs, Pt.cells, Pt.slots] at X' l' y' z' st hQ
  subst l' y' z'
  obtain ⟨s₂, o, h1, h2⟩ := hr v T'.heap hQ.1 T' _ X' rfl (Fr.app N hQ.2)
  exact ⟨s₂, o, st.trans h1, h2⟩
theorem Cx.acopy (K : Cx l R Z n0 Q own nm bytes maxL ret m G) {index W i j k : Nat} {a b : Addr} {ty : FieldType} {vs vd : List Value} {sp dp nn : Int32} (dv : Value) (hd : decode bytes pc = .ok (.invokestatic index, 3)) (hp : pc + 3 = pc') (w1 : (Cond.methodLink own index Jvm.Stand.acN).before a0 Z = true) (w2 : (Cond.native Jvm.Stand.acN).before a0 Z = true) (w3 : (Cond.static Jvm.Stand.acN).before a0 Z = true) (w4 : (Cond.initialized "java/lang/System").before a0 Z = true)
    (A : Ary Z h a ty vs) (B : Ary Z h b ty vd) (hpr : refKind ty = false) (hfa : ∀ v ∈ vs, fits ty v = true) (hfb : ∀ v ∈ vd, fits ty v = true) (hdv : fits ty dv = true) (hi : sp.toInt = (i : Nat)) (hj : dp.toInt = (j : Nat)) (hk : nn.toInt = (k : Nat)) (h4 : i + k ≤ vs.length) (h5 : j + k ≤ vd.length) (gb : n0 ≤ b)
    (hL : L.size = maxL) (hf : 1 ≤ R.frames) (hW : (S.map fun v => v.category).sum ≤ W) (hlo : W + (nativeFrameWords "java/lang/System" "arraycopy" 5 + 11) ≤ R.locals)
    (hr : ∀ h', Keep h h' [b] → Ary Z h' b ty (vd.take j ++ ((List.range k).map fun t => vs.getD (i + t) dv) ++ vd.drop (j + k)) → G h' kc ks (mkF m pc' L S)) : G h kc ks (mkF m pc L (.int nn :: .int dp :: .ref b :: .int sp :: .ref a :: S)) := by
  obtain ⟨p, e, s, args, below, meth, c, rfl, hx, hby, hml, hown, hZ, hret, hlk, hnm⟩ := K
  subst hp
  intro T locs X eT N
  obtain ⟨ka, za, ea, VA⟩ := A.toArv hfa hdv
  obtain ⟨kb, zb, eb, VB⟩ := B.toArv hfb hdv
  have neg : ∀ {x : Int32} {n : Nat}, x.toInt = (n : Nat) → ¬ x < 0 := fun {x n} q => by rw [Int32.lt_iff_toInt_lt, q, show (0 : Int32).toInt = 0 from rfl]; omega
  obtain ⟨T', h', Lc, X', e', N', Kp, V, st⟩ := RoadKit.cpA X hx hZ hown w1 w2 w3 w4 eT VA VB (Or.inl ⟨rfl, hpr⟩) (neg hi) (neg hj) (neg hk) (by rw [clamp_of hi, clamp_of hk, clamp_of ea]; exact h4) (by rw [clamp_of hj, clamp_of hk, clamp_of eb]; exact h5) rfl (by rw [clamp_of hj, clamp_of hk]; exact h5) N gb (g := mkF m pc L (.int nn :: .int dp :: .ref b :: .int sp :: .ref a :: S)) rfl (by rw [hml]; exact hL) rfl (hb hby hd) hf (W := W) (by show 2 * 0 + _ ≤ _; omega) hlo
  rw [clamp_of hi, clamp_of hj, clamp_of hk] at V
  obtain ⟨s₂, o, h1, h2⟩ := hr h' Kp (Arv.toAry V (by rw [eb]; simp; omega)) T' _ X' e' N'
  exact ⟨s₂, o, st _ h1, h2⟩
theorem Cx.clone (K : Cx l R Z n0 Q own nm bytes maxL ret m G) {index W cap : Nat} {a : Addr} {ad : String} {ty : FieldType} {vs : List Value} (dv : Value) (hd : decode bytes pc = .ok (.invokevirtual index, 3)) (hp : pc + 3 = pc')
    (w1 : (Cond.methodLink own index ⟨ad, "clone", "()Ljava/lang/Object;"⟩).before a0 Z = true) (w2 : (Cond.sameMethod ad "java/lang/Object" "clone" "()Ljava/lang/Object;").before a0 Z = true) (w3 : (Cond.native ⟨"java/lang/Object", "clone", "()Ljava/lang/Object;"⟩).before a0 Z = true)
    (w4 : (Cond.instanceMethod ⟨"java/lang/Object", "clone", "()Ljava/lang/Object;"⟩).before a0 Z = true) (w5 : (Cond.selects ad ⟨ad, "clone", "()Ljava/lang/Object;"⟩ ⟨"java/lang/Object", "clone", "()Ljava/lang/Object;"⟩).before a0 Z = true) (w6 : (Cond.castable ad "java/lang/Cloneable").before a0 Z = true)
    (A : Ary Z h a ty vs) (E : Exa Z h a ad) (hfv : ∀ v ∈ vs, fits ty v = true) (hdv : fits ty dv = true) (hL : L.size = maxL) (hf : 1 ≤ R.frames) (hW : (S.map fun v => v.category).sum ≤ W) (hl : W + 14 ≤ R.locals) (hcap : vs.length ≤ cap) (hc : kc + 1 ≤ R.cells) (hsl : ks + cap ≤ R.slots)
    (hr : ∀ h' b, b = h.size → Ext h h' → Ary Z h' b ty vs → Exa Z h' b ad → G h' (kc + 1) (ks + cap) (mkF m pc' L (.ref b :: S))) : G h kc ks (mkF m pc L (.ref a :: S)) := by
  obtain ⟨p, e, s, args, below, meth, c, rfl, hx, hby, hml, hown, hZ, hret, hlk, hnm⟩ := K
  subst hp
  intro T locs X eT N
  obtain ⟨ka, za, ea, VA⟩ := A.toArv hfv hdv
  obtain ⟨T', h', X', e', Ex', V, EX, st⟩ := RoadKit.cloneH X hx hZ hown w1 w2 w3 w4 w5 w6 eT VA.arh E (g := mkF m pc L (.ref a :: S)) rfl (by rw [hml]; exact hL) rfl (hb hby hd) hf (W := W) (cap := cap) (by show 2 * 0 + _ ≤ _; omega) hl (by rw [clamp_of ea]; exact hcap) hc hsl
  obtain ⟨s₂, o, h1, h2⟩ := hr h' _ rfl Ex' (Arv.toAry (show Arv Z h' h.size ka ty za vs dv from V) ea) EX T' _ X' e' N
  exact ⟨s₂, o, st _ h1, h2⟩
theorem Cx.ccast (K : Cx l R Z n0 Q own nm bytes maxL ret m G) {index : Nat} {Kc : String} {a : Addr} (hd : decode bytes pc = .ok (.checkcast index, 3)) (hp : pc + 3 = pc') (w : (Cond.classLink own index Kc).before a0 Z = true) (F : Ins Z h a Kc true) (hr : G h kc ks (mkF m pc' L (.ref a :: S))) : G h kc ks (mkF m pc L (.ref a :: S)) := by
  subst hp
  exact K.stepX (h' := h) (fun p e s args below meth c T locs X eT hx hb0 hown hZ => RoadKit.castY X hx hZ hown w eT F (g := mkF m pc L (.ref a :: S)) rfl rfl (hb hb0 hd)) hr
theorem Cx.reti (K : Cx l R Z n0 Q own nm bytes maxL (some .int) m G) {z : Int32} (hd : decode bytes pc = .ok (.ireturn, 1)) (hc : kc ≤ R.cells) (hs : ks ≤ R.slots) (hQ : Q (some (.int z)) h) : G h kc ks (mkF m pc L (.int z :: S)) := by
  obtain ⟨p, e, s, args, below, meth, c, rfl, hx, hby, hml, hown, hZ, hret, hlk, hnm⟩ := K
  intro T locs X eT N
  obtain ⟨fs, hr, hrun, hended, hW, hsame⟩ := X.leave (v := some (.int z)) (fun h => by rw [hret] at h; cases h) hlk
  refine ⟨_, _, ?_, hrun, hended, _, _, rfl, ⟨?_, N⟩, ⟨_, rfl⟩, hW, hsame.mono hc hs⟩
  · exact retOut X hx hret rfl (Or.inl ⟨rfl, Or.inl rfl, _, rfl⟩) (hb hby hd) hr
  · show Q _ T.heap
    rw [eT]; exact hQ
theorem Cx.retz (K : Cx l R Z n0 Q own nm bytes maxL (some .boolean) m G) {z : Int32} (hd : decode bytes pc = .ok (.ireturn, 1)) (hz : z = 0 ∨ z = 1) (hc : kc ≤ R.cells) (hs : ks ≤ R.slots) (hQ : Q (some (.int z)) h) : G h kc ks (mkF m pc L (.int z :: S)) := by
  obtain ⟨p, e, s, args, below, meth, c, rfl, hx, hby, hml, hown, hZ, hret, hlk, hnm⟩ := K
  intro T locs X eT N
  obtain ⟨fs, hr, hrun, hended, hW, hsame⟩ := X.leave (v := some (.int z)) (fun h => by rw [hret] at h; cases h) hlk
  refine ⟨_, _, ?_, hrun, hended, _, _, rfl, ⟨?_, N⟩, ⟨_, rfl⟩, hW, hsame.mono hc hs⟩
  · exact retOut X hx hret (by rcases hz with rfl | rfl <;> rfl) (Or.inl ⟨rfl, Or.inr (Or.inl rfl), _, rfl⟩) (hb hby hd) hr
  · show Q _ T.heap
    rw [eT]; exact hQ
theorem Cx.retl (K : Cx l R Z n0 Q own nm bytes maxL (some .long) m G) {z : Int64} (hd : decode bytes pc = .ok (.lreturn, 1)) (hc : kc ≤ R.cells) (hs : ks ≤ R.slots) (hQ : Q (some (.long z)) h) : G h kc ks (mkF m pc L (.long z :: S)) := by
  obtain ⟨p, e, s, args, below, meth, c, rfl, hx, hby, hml, hown, hZ, hret, hlk, hnm⟩ := K
  intro T locs X eT N
  obtain ⟨fs, hr, hrun, hended, hW, hsame⟩ := X.leave (v := some (.long z)) (fun h => by rw [hret] at h; cases h) hlk
  refine ⟨_, _, ?_, hrun, hended, _, _, rfl, ⟨?_, N⟩, ⟨_, rfl⟩, hW, hsame.mono hc hs⟩
  · exact retOut X hx hret rfl (Or.inr (Or.inl ⟨rfl, rfl, _, rfl⟩)) (hb hby hd) hr
  · show Q _ T.heap
    rw [eT]; exact hQ
theorem Cx.reta {t : FieldType} (K : Cx l R Z n0 Q own nm bytes maxL (some t) m G) {v : Value} (hd : decode bytes pc = .ok (.areturn, 1)) (ht : t.isReference = true) (hn : narrow t v = v) (hv : v.isRef = true) (hc : kc ≤ R.cells) (hs : ks ≤ R.slots) (hQ : Q (some v) h) : G h kc ks (mkF m pc L (v :: S)) := by
  obtain ⟨p, e, s, args, below, meth, c, rfl, hx, hby, hml, hown, hZ, hret, hlk, hnm⟩ := K
  intro T locs X eT N
  obtain ⟨fs, hr, hrun, hended, hW, hsame⟩ := X.leave (v := some v) (fun h => by rw [hret] at h; cases h) hlk
  refine ⟨_, _, ?_, hrun, hended, _, _, rfl, ⟨?_, N⟩, ⟨_, rfl⟩, hW, hsame.mono hc hs⟩
  · exact retOut X hx hret hn (Or.inr (Or.inr (Or.inr (Or.inr ⟨rfl, ht, hv⟩)))) (hb hby hd) hr
  · show Q _ T.heap
    rw [eT]; exact hQ
theorem Cx.retd (K : Cx l R Z n0 Q own nm bytes maxL (some .double) m G) {z : UInt64} (hd : decode bytes pc = .ok (.dreturn, 1)) (hc : kc ≤ R.cells) (hs : ks ≤ R.slots) (hQ : Q (some (.double z)) h) : G h kc ks (mkF m pc L (.double z :: S)) := by
  obtain ⟨p, e, s, args, below, meth, c, rfl, hx, hby, hml, hown, hZ, hret, hlk, hnm⟩ := K
  intro T locs X eT N
  obtain ⟨fs, hr, hrun, hended, hW, hsame⟩ := X.leave (v := some (.double z)) (fun h => by rw [hret] at h; cases h) hlk
  refine ⟨_, _, ?_, hrun, hended, _, _, rfl, ⟨?_, N⟩, ⟨_, rfl⟩, hW, hsame.mono hc hs⟩
  · exact retOut X hx hret rfl (Or.inr (Or.inr (Or.inl ⟨rfl, rfl, _, rfl⟩))) (hb hby hd) hr
  · show Q _ T.heap
    rw [eT]; exact hQ
theorem Cx.ret0 (K : Cx l R Z n0 Q own nm bytes maxL none m G) (hd : decode bytes pc = .ok (.return_, 1)) (hc : kc ≤ R.cells) (hs : ks ≤ R.slots) (hQ : Q none h) : G h kc ks (mkF m pc L []) := by
  obtain ⟨p, e, s, args, below, meth, c, rfl, hx, hby, hml, hown, hZ, hret, hlk, hnm⟩ := K
  intro T locs X eT N
  obtain ⟨fs, hr, hrun, hended, hW, hsame⟩ := X.leave (v := none) (fun h => rfl) hlk
  refine ⟨_, _, ?_, hrun, hended, _, _, rfl, ⟨?_, N⟩, ⟨_, rfl⟩, hW, hsame.mono hc hs⟩
  · exact X.returnOut hx hret (hb hby hd) hr
  · show Q _ T.heap
    rw [eT]; exact hQ
end Steps
end Jvm.Wk
namespace Jvm.Pilot.@@N@@
open Jvm Jvm.ClassFile Sem Op Lib Jvm.Free Jvm.Stand Jvm.LawKit Jvm.RoadKit Jvm.Wk Bundle Jvm.Pilot.@@N@@.Jvm.D
theorem d1_0 : decode prog_21_method_1_code 0 = .ok (.aload_n 0, 1) := by decide +kernel
theorem d1_1 : decode prog_21_method_1_code 1 = .ok (.invokespecial 3, 3) := by decide +kernel
theorem d1_4 : decode prog_21_method_1_code 4 = .ok (.aload_n 0, 1) := by decide +kernel
theorem d1_5 : decode prog_21_method_1_code 5 = .ok (.aload_n 1, 1) := by decide +kernel
theorem d1_6 : decode prog_21_method_1_code 6 = .ok (.putfield 9, 3) := by decide +kernel
theorem d1_9 : decode prog_21_method_1_code 9 = .ok (.aload_n 0, 1) := by decide +kernel
theorem d1_10 : decode prog_21_method_1_code 10 = .ok (.iload_n 2, 1) := by decide +kernel
theorem d1_11 : decode prog_21_method_1_code 11 = .ok (.putfield 15, 3) := by decide +kernel
theorem d1_14 : decode prog_21_method_1_code 14 = .ok (.aload_n 0, 1) := by decide +kernel
theorem d1_15 : decode prog_21_method_1_code 15 = .ok (.iload_n 3, 1) := by decide +kernel
theorem d1_16 : decode prog_21_method_1_code 16 = .ok (.putfield 19, 3) := by decide +kernel
theorem d1_19 : decode prog_21_method_1_code 19 = .ok (.return_, 1) := by decide +kernel
theorem pn_com_example_nestwire_nestwire_codec_RlpBytes : plainName "com/example/nestwire/nestwire/codec/RlpBytes" = true := by first | (simp [plainName, overriddenIn]; done) | decide +kernel
set_option maxRecDepth 65536 in
set_option maxHeartbeats 40000000 in
theorem c_new (l : Launch) (Z : State) (a0 : Array Value) (hw : ∀ d ∈ tables_1, d.before a0 Z = true) (n0 : Nat) (h : Heap) (a : Addr) (b : Addr) (p : Int32) (n : Int32) (P1 : Exa Z h a "com/example/nestwire/nestwire/codec/RlpBytes") (P2 : Fld Z h a "com/example/nestwire/nestwire/codec/RlpBytes" "source" "[B" .null) (P3 : Fld Z h a "com/example/nestwire/nestwire/codec/RlpBytes" "start" "I" (.int (0 : Int32))) (P4 : Fld Z h a "com/example/nestwire/nestwire/codec/RlpBytes" "length" "I" (.int (0 : Int32))) (P5 : n0 ≤ a) : MeetsW l Z n0 (⟨"com/example/nestwire/nestwire/codec/RlpBytes", "<init>", "([BII)V"⟩ : MethodName) prog_21_method_1_code 4 none ({ frames := 1, cells := 0, slots := 0, locals := 12 } : Room) #[(.ref a), (.ref b), (.int p), (.int n)] h (fun v h' => v = none ∧ Keep h h' [a] ∧ Fld Z h' a "com/example/nestwire/nestwire/codec/RlpBytes" "source" "[B" (.ref b) ∧ Fld Z h' a "com/example/nestwire/nestwire/codec/RlpBytes" "start" "I" (.int p) ∧ Fld Z h' a "com/example/nestwire/nestwire/codec/RlpBytes" "length" "I" (.int n)) := by
  refine MeetsW.intro (plainFor_of_name pn_com_example_nestwire_nestwire_codec_RlpBytes) (L0 := #[.val (.ref a), .val (.ref b), .val (.int p), .val (.int n)]) (fun m => by first | (simp [entryFrame, mkF, argsToLocals, Value.category]; done) | rfl) ?_
  intro m G K0
  have K : Cx l ({ frames := 1, cells := 0, slots := 0, locals := 12 } : Room) Z n0 _ "com/example/nestwire/nestwire/codec/RlpBytes" "<init>" prog_21_method_1_code 4 none m G := K0
  refine K.aloadN d1_0 (pc' := 1) rfl rfl rfl ?_
  refine K.init0 d1_1 (pc' := 4) rfl (hw _ (List.mem_of_getElem? (i := 7) rfl)) (hw _ (List.mem_of_getElem? (i := 8) rfl)) (hw _ (List.mem_of_getElem? (i := 9) rfl)) rfl (by decide) (W := 0) (by simp [Value.category]) (by decide) ?_
  refine K.aloadN d1_4 (pc' := 5) rfl rfl rfl ?_
  refine K.aloadN d1_5 (pc' := 6) rfl rfl rfl ?_
  refine K.putf d1_6 (pc' := 9) rfl (host := "") (Or.inl (hw _ (List.mem_of_getElem? (i := 10) rfl))) Via.refl P2 P1 (Or.inr ⟨(hw _ (List.mem_of_getElem? (i := 11) rfl)), rfl, rfl⟩) (hw _ (List.mem_of_getElem? (i := 2) rfl)) (ty := (.array .byte)) (by decide) rfl rfl P5 (fun h_1 W_2 => ?_)
  have f_3 : Exa Z h_1 a "com/example/nestwire/nestwire/codec/RlpBytes" := P1.wr W_2
  have f_4 : Fld Z h_1 a "com/example/nestwire/nestwire/codec/RlpBytes" "source" "[B" (.ref b) := P2.same W_2
  have f_5 : Fld Z h_1 a "com/example/nestwire/nestwire/codec/RlpBytes" "start" "I" (.int (0 : Int32)) := P3.other W_2 (Or.inr (slot_ne (Or.inr (hw _ (List.mem_of_getElem? (i := 13) rfl))) (Or.inr (hw _ (List.mem_of_getElem? (i := 11) rfl))) (by decide) (t := .int) (t' := (.array .byte)) (by decide) (by decide)))
  have f_6 : Fld Z h_1 a "com/example/nestwire/nestwire/codec/RlpBytes" "length" "I" (.int (0 : Int32)) := P4.other W_2 (Or.inr (slot_ne (Or.inr (hw _ (List.mem_of_getElem? (i := 15) rfl))) (Or.inr (hw _ (List.mem_of_getElem? (i := 11) rfl))) (by decide) (t := .int) (t' := (.array .byte)) (by decide) (by decide)))
  have kp_7 : Keep h h_1 [a] := (Keep.refl h [a]).wr W_2 (Or.inl (by simp))
  refine K.aloadN d1_9 (pc' := 10) rfl rfl rfl ?_
  refine K.iloadN d1_10 (pc' := 11) rfl rfl ?_
  refine K.putf d1_11 (pc' := 14) rfl (host := "") (Or.inl (hw _ (List.mem_of_getElem? (i := 12) rfl))) Via.refl f_5 f_3 (Or.inr ⟨(hw _ (List.mem_of_getElem? (i := 13) rfl)), rfl, rfl⟩) (hw _ (List.mem_of_getElem? (i := 2) rfl)) (ty := .int) (by decide) rfl rfl P5 (fun h_8 W_9 => ?_)
  have f_10 : Exa Z h_8 a "com/example/nestwire/nestwire/codec/RlpBytes" := f_3.wr W_9
  have f_11 : Fld Z h_8 a "com/example/nestwire/nestwire/codec/RlpBytes" "source" "[B" (.ref b) := f_4.other W_9 (Or.inr (slot_ne (Or.inr (hw _ (List.mem_of_getElem? (i := 11) rfl))) (Or.inr (hw _ (List.mem_of_getElem? (i := 13) rfl))) (by decide) (t := (.array .byte)) (t' := .int) (by decide) (by decide)))
  have f_12 : Fld Z h_8 a "com/example/nestwire/nestwire/codec/RlpBytes" "start" "I" (.int p) := f_5.same W_9
  have f_13 : Fld Z h_8 a "com/example/nestwire/nestwire/codec/RlpBytes" "length" "I" (.int (0 : Int32)) := f_6.other W_9 (Or.inr (slot_ne (Or.inr (hw _ (List.mem_of_getElem? (i := 15) rfl))) (Or.inr (hw _ (List.mem_of_getElem? (i := 13) rfl))) (by decide) (t := .int) (t' := .int) (by decide) (by decide)))
  have kp_14 : Keep h h_8 [a] := kp_7.wr W_9 (Or.inl (by simp))
  refine K.aloadN d1_14 (pc' := 15) rfl rfl rfl ?_
  refine K.iloadN d1_15 (pc' := 16) rfl rfl ?_
  refine K.putf d1_16 (pc' := 19) rfl (host := "") (Or.inl (hw _ (List.mem_of_getElem? (i := 14) rfl))) Via.refl f_13 f_10 (Or.inr ⟨(hw _ (List.mem_of_getElem? (i := 15) rfl)), rfl, rfl⟩) (hw _ (List.mem_of_getElem? (i := 2) rfl)) (ty := .int) (by decide) rfl rfl P5 (fun h_15 W_16 => ?_)
  have f_17 : Exa Z h_15 a "com/example/nestwire/nestwire/codec/RlpBytes" := f_10.wr W_16
  have f_18 : Fld Z h_15 a "com/example/nestwire/nestwire/codec/RlpBytes" "source" "[B" (.ref b) := f_11.other W_16 (Or.inr (slot_ne (Or.inr (hw _ (List.mem_of_getElem? (i := 11) rfl))) (Or.inr (hw _ (List.mem_of_getElem? (i := 15) rfl))) (by decide) (t := (.array .byte)) (t' := .int) (by decide) (by decide)))
  have f_19 : Fld Z h_15 a "com/example/nestwire/nestwire/codec/RlpBytes" "start" "I" (.int p) := f_12.other W_16 (Or.inr (slot_ne (Or.inr (hw _ (List.mem_of_getElem? (i := 13) rfl))) (Or.inr (hw _ (List.mem_of_getElem? (i := 15) rfl))) (by decide) (t := .int) (t' := .int) (by decide) (by decide)))
  have f_20 : Fld Z h_15 a "com/example/nestwire/nestwire/codec/RlpBytes" "length" "I" (.int n) := f_13.same W_16
  have kp_21 : Keep h h_15 [a] := kp_14.wr W_16 (Or.inl (by simp))
  exact K.ret0 d1_19 (by decide) (by decide) ⟨rfl, kp_21, f_18, f_19, f_20⟩
theorem d3_0 : decode prog_21_method_14_code 0 = .ok (.iconst 1, 1) := by decide +kernel
theorem d3_1 : decode prog_21_method_14_code 1 = .ok (.istore_n 1, 1) := by decide +kernel
theorem d3_2 : decode prog_21_method_14_code 2 = .ok (.aload_n 0, 1) := by decide +kernel
theorem d3_3 : decode prog_21_method_14_code 3 = .ok (.getfield 15, 3) := by decide +kernel
theorem d3_6 : decode prog_21_method_14_code 6 = .ok (.istore_n 2, 1) := by decide +kernel
theorem d3_7 : decode prog_21_method_14_code 7 = .ok (.iload_n 2, 1) := by decide +kernel
theorem d3_8 : decode prog_21_method_14_code 8 = .ok (.aload_n 0, 1) := by decide +kernel
theorem d3_9 : decode prog_21_method_14_code 9 = .ok (.getfield 15, 3) := by decide +kernel
theorem d3_12 : decode prog_21_method_14_code 12 = .ok (.aload_n 0, 1) := by decide +kernel
theorem d3_13 : decode prog_21_method_14_code 13 = .ok (.getfield 19, 3) := by decide +kernel
theorem d3_16 : decode prog_21_method_14_code 16 = .ok (.iadd, 1) := by decide +kernel
theorem d3_17 : decode prog_21_method_14_code 17 = .ok (.if_icmp .ge 21, 3) := by decide +kernel
theorem d3_38 : decode prog_21_method_14_code 38 = .ok (.iload_n 1, 1) := by decide +kernel
theorem d3_39 : decode prog_21_method_14_code 39 = .ok (.ireturn, 1) := by decide +kernel
theorem d3_20 : decode prog_21_method_14_code 20 = .ok (.bipush 31, 2) := by decide +kernel
theorem d3_22 : decode prog_21_method_14_code 22 = .ok (.iload_n 1, 1) := by decide +kernel
theorem d3_23 : decode prog_21_method_14_code 23 = .ok (.imul, 1) := by decide +kernel
theorem d3_24 : decode prog_21_method_14_code 24 = .ok (.aload_n 0, 1) := by decide +kernel
theorem d3_25 : decode prog_21_method_14_code 25 = .ok (.getfield 9, 3) := by decide +kernel
theorem d3_28 : decode prog_21_method_14_code 28 = .ok (.iload_n 2, 1) := by decide +kernel
theorem d3_29 : decode prog_21_method_14_code 29 = .ok (.baload, 1) := by decide +kernel
theorem d3_30 : decode prog_21_method_14_code 30 = .ok (.iadd, 1) := by decide +kernel
theorem d3_31 : decode prog_21_method_14_code 31 = .ok (.istore_n 1, 1) := by decide +kernel
theorem d3_32 : decode prog_21_method_14_code 32 = .ok (.iinc 2 1, 3) := by decide +kernel
theorem d3_35 : decode prog_21_method_14_code 35 = .ok (.goto (-28), 3) := by decide +kernel
set_option maxRecDepth 65536 in
set_option maxHeartbeats 40000000 in
theorem c_hash (l : Launch) (Z : State) (a0 : Array Value) (hw : ∀ d ∈ tables_1, d.before a0 Z = true) (n0 : Nat) (h : Heap) (a : Addr) (b : Addr) (p : Int32) (n : Int32) (vs : List Value) (y0 : Int32) (y1 : Int32) (y2 : Int32) (y3 : Int32) (P1 : Exa Z h a "com/example/nestwire/nestwire/codec/RlpBytes") (P2 : Fld Z h a "com/example/nestwire/nestwire/codec/RlpBytes" "source" "[B" (.ref b)) (P3 : Fld Z h a "com/example/nestwire/nestwire/codec/RlpBytes" "start" "I" (.int p)) (P4 : Fld Z h a "com/example/nestwire/nestwire/codec/RlpBytes" "length" "I" (.int n)) (P5 : Ary Z h b .byte vs) (hp : 0 ≤ p.toInt ∧ p.toInt ≤ 3) (hn : 0 ≤ n.toInt ∧ n.toInt ≤ 4) (hv0 : vs[p.toInt.toNat + 0]? = some (.int y0)) (hv1 : vs[p.toInt.toNat + 1]? = some (.int y1)) (hv2 : vs[p.toInt.toNat + 2]? = some (.int y2)) (hv3 : vs[p.toInt.toNat + 3]? = some (.int y3)) : MeetsW l Z n0 (⟨"com/example/nestwire/nestwire/codec/RlpBytes", "hashCode", "()I"⟩ : MethodName) prog_21_method_14_code 3 (some .int) ({ frames := 0, cells := 0, slots := 0, locals := 0 } : Room) #[(.ref a)] h (fun v h' => ∃ (z : Int32), v = some (.int z) ∧ ((n.toInt = 0 → z = 1) ∧ (n.toInt = 1 → z = 31 * 1 + y0) ∧ (n.toInt = 2 → z = 31 * (31 * 1 + y0) + y1) ∧ (n.toInt = 3 → z = 31 * (31 * (31 * 1 + y0) + y1) + y2) ∧ (n.toInt = 4 → z = 31 * (31 * (31 * (31 * 1 + y0) + y1) + y2) + y3)) ∧ h = h') := by
  refine MeetsW.intro (plainFor_of_name pn_com_example_nestwire_nestwire_codec_RlpBytes) (L0 := #[.val (.ref a), .unset, .unset]) (fun m => by first | (simp [entryFrame, mkF, argsToLocals, Value.category]; done) | rfl) ?_
  intro m G K0
  have K : Cx l ({ frames := 0, cells := 0, slots := 0, locals := 0 } : Room) Z n0 _ "com/example/nestwire/nestwire/codec/RlpBytes" "hashCode" prog_21_method_14_code 3 (some .int) m G := K0
  have cs_n : n = 0 ∨ n = 1 ∨ n = 2 ∨ n = 3 ∨ n = 4 := by
    have q : n.toInt = 0 ∨ n.toInt = 1 ∨ n.toInt = 2 ∨ n.toInt = 3 ∨ n.toInt = 4 := by omega
    rcases q with q | q | q | q | q
    · exact Or.inl (eqI q)
    · exact Or.inr (Or.inl (eqI q))
    · exact Or.inr (Or.inr (Or.inl (eqI q)))
    · exact Or.inr (Or.inr (Or.inr (Or.inl (eqI q))))
    · exact Or.inr (Or.inr (Or.inr (Or.inr (eqI q))))
  rcases cs_n with rfl | rfl | rfl | rfl | rfl
  · refine K.iconst d3_0 (pc' := 1) rfl (z := 1) rfl ?_
    refine K.istoreN d3_1 (pc' := 2) rfl (L' := #[.val (.ref a), .val (.int (1 : Int32)), .unset]) rfl ?_
    refine K.aloadN d3_2 (pc' := 3) rfl rfl rfl ?_
    refine K.getf d3_3 (pc' := 6) rfl (host := "") (Or.inl (hw _ (List.mem_of_getElem? (i := 12) rfl))) Via.refl P3 ?_
    refine K.istoreN d3_6 (pc' := 7) rfl (L' := #[.val (.ref a), .val (.int (1 : Int32)), .val (.int p)]) rfl ?_
    refine K.iloadN d3_7 (pc' := 8) rfl rfl ?_
    refine K.aloadN d3_8 (pc' := 9) rfl rfl rfl ?_
    refine K.getf d3_9 (pc' := 12) rfl (host := "") (Or.inl (hw _ (List.mem_of_getElem? (i := 12) rfl))) Via.refl P3 ?_
    refine K.aloadN d3_12 (pc' := 13) rfl rfl rfl ?_
    refine K.getf d3_13 (pc' := 16) rfl (host := "") (Or.inl (hw _ (List.mem_of_getElem? (i := 14) rfl))) Via.refl P4 ?_
    obtain ⟨z16, e_z16⟩ : ∃ z, p + (0 : Int32) = z := ⟨_, rfl⟩
    have r_z16 : (z16.toInt - (p.toInt + 0)) % 4294967296 = 0 := by have q := c_iadd p (0 : Int32); rw [e_z16] at q; exact q
    have g_z16 := rng32 z16
    have t_z16 : z16.toInt = p.toInt + 0 := by omega
    clear r_z16
    clear g_z16
    refine K.iadd d3_16 (pc' := 17) rfl e_z16 ?_
    refine K.icmp_ge d3_17 (pc1 := 20) rfl (by decide) (pc2 := 38) (by decide) (a := p.toInt) (b := z16.toInt) rfl rfl (fun c17 => ?_) (fun c17 => ?_)
    · refine K.iloadN d3_38 (pc' := 39) rfl rfl ?_
      exact K.reti d3_39 (by decide) (by decide) ⟨(1 : Int32), rfl, by have ev : (1 : Int32).toInt = 1 := rfl; first | omega | (refine ⟨?_, ?_, ?_, ?_, ?_⟩ <;> intro q <;> first | rfl | (exfalso; revert q; decide)), rfl⟩
    · exfalso; omega
  · refine K.iconst d3_0 (pc' := 1) rfl (z := 1) rfl ?_
    refine K.istoreN d3_1 (pc' := 2) rfl (L' := #[.val (.ref a), .val (.int (1 : Int32)), .unset]) rfl ?_
    refine K.aloadN d3_2 (pc' := 3) rfl rfl rfl ?_
    refine K.getf d3_3 (pc' := 6) rfl (host := "") (Or.inl (hw _ (List.mem_of_getElem? (i := 12) rfl))) Via.refl P3 ?_
    refine K.istoreN d3_6 (pc' := 7) rfl (L' := #[.val (.ref a), .val (.int (1 : Int32)), .val (.int p)]) rfl ?_
    refine K.iloadN d3_7 (pc' := 8) rfl rfl ?_
    refine K.aloadN d3_8 (pc' := 9) rfl rfl rfl ?_
    refine K.getf d3_9 (pc' := 12) rfl (host := "") (Or.inl (hw _ (List.mem_of_getElem? (i := 12) rfl))) Via.refl P3 ?_
    refine K.aloadN d3_12 (pc' := 13) rfl rfl rfl ?_
    refine K.getf d3_13 (pc' := 16) rfl (host := "") (Or.inl (hw _ (List.mem_of_getElem? (i := 14) rfl))) Via.refl P4 ?_
    obtain ⟨z16, e_z16⟩ : ∃ z, p + (1 : Int32) = z := ⟨_, rfl⟩
    have r_z16 : (z16.toInt - (p.toInt + 1)) % 4294967296 = 0 := by have q := c_iadd p (1 : Int32); rw [e_z16] at q; exact q
    have g_z16 := rng32 z16
    have t_z16 : z16.toInt = p.toInt + 1 := by omega
    clear r_z16
    clear g_z16
    refine K.iadd d3_16 (pc' := 17) rfl e_z16 ?_
    refine K.icmp_ge d3_17 (pc1 := 20) rfl (by decide) (pc2 := 38) (by decide) (a := p.toInt) (b := z16.toInt) rfl rfl (fun c17 => ?_) (fun c17 => ?_)
    · exfalso; omega
    · refine K.bipush d3_20 (pc' := 22) rfl (z := 31) rfl ?_
      refine K.iloadN d3_22 (pc' := 23) rfl rfl ?_
      refine K.imul d3_23 (pc' := 24) rfl (z := (31 : Int32)) (by decide) ?_
      refine K.aloadN d3_24 (pc' := 25) rfl rfl rfl ?_
      refine K.getf d3_25 (pc' := 28) rfl (host := "") (Or.inl (hw _ (List.mem_of_getElem? (i := 10) rfl))) Via.refl P2 ?_
      refine K.iloadN d3_28 (pc' := 29) rfl rfl ?_
      refine K.bald d3_29 (pc' := 30) rfl P5 (i := p.toInt.toNat + 0) (by omega) (v := (.int y0)) hv0 ?_
      refine K.iadd d3_30 (pc' := 31) rfl rfl ?_
      refine K.istoreN d3_31 (pc' := 32) rfl (L' := #[.val (.ref a), .val (.int ((31 : Int32) + y0)), .val (.int p)]) rfl ?_
      obtain ⟨z32, e_z32⟩ : ∃ z, p + (1 : Int32) = z := ⟨_, rfl⟩
      have r_z32 : (z32.toInt - (p.toInt + 1)) % 4294967296 = 0 := by have q := c_iadd p (1 : Int32); rw [e_z32] at q; exact q
      have g_z32 := rng32 z32
      have t_z32 : z32.toInt = p.toInt + 1 := by omega
      clear r_z32
      clear g_z32
      refine K.iinc d3_32 (pc' := 35) rfl rfl (z := z32) e_z32 (L' := #[.val (.ref a), .val (.int ((31 : Int32) + y0)), .val (.int z32)]) rfl ?_
      refine K.goto d3_35 (by decide) (pc' := 7) (by decide) ?_
      refine K.iloadN d3_7 (pc' := 8) rfl rfl ?_
      refine K.aloadN d3_8 (pc' := 9) rfl rfl rfl ?_
      refine K.getf d3_9 (pc' := 12) rfl (host := "") (Or.inl (hw _ (List.mem_of_getElem? (i := 12) rfl))) Via.refl P3 ?_
      refine K.aloadN d3_12 (pc' := 13) rfl rfl rfl ?_
      refine K.getf d3_13 (pc' := 16) rfl (host := "") (Or.inl (hw _ (List.mem_of_getElem? (i := 14) rfl))) Via.refl P4 ?_
      obtain ⟨z16_1, e_z16_1⟩ : ∃ z, p + (1 : Int32) = z := ⟨_, rfl⟩
      have r_z16_1 : (z16_1.toInt - (p.toInt + 1)) % 4294967296 = 0 := by have q := c_iadd p (1 : Int32); rw [e_z16_1] at q; exact q
      have g_z16_1 := rng32 z16_1
      have t_z16_1 : z16_1.toInt = p.toInt + 1 := by omega
      clear r_z16_1
      clear g_z16_1
      refine K.iadd d3_16 (pc' := 17) rfl e_z16_1 ?_
      refine K.icmp_ge d3_17 (pc1 := 20) rfl (by decide) (pc2 := 38) (by decide) (a := z32.toInt) (b := z16_1.toInt) rfl rfl (fun c17_1 => ?_) (fun c17_1 => ?_)
      · refine K.iloadN d3_38 (pc' := 39) rfl rfl ?_
        exact K.reti d3_39 (by decide) (by decide) ⟨((31 : Int32) + y0), rfl, by refine ⟨?_, ?_, ?_, ?_, ?_⟩ <;> intro q <;> first | rfl | (exfalso; revert q; decide), rfl⟩
      · exfalso; omega
  · refine K.iconst d3_0 (pc' := 1) rfl (z := 1) rfl ?_
    refine K.istoreN d3_1 (pc' := 2) rfl (L' := #[.val (.ref a), .val (.int (1 : Int32)), .unset]) rfl ?_
    refine K.aloadN d3_2 (pc' := 3) rfl rfl rfl ?_
    refine K.getf d3_3 (pc' := 6) rfl (host := "") (Or.inl (hw _ (List.mem_of_getElem? (i := 12) rfl))) Via.refl P3 ?_
    refine K.istoreN d3_6 (pc' := 7) rfl (L' := #[.val (.ref a), .val (.int (1 : Int32)), .val (.int p)]) rfl ?_
    refine K.iloadN d3_7 (pc' := 8) rfl rfl ?_
    refine K.aloadN d3_8 (pc' := 9) rfl rfl rfl ?_
    refine K.getf d3_9 (pc' := 12) rfl (host := "") (Or.inl (hw _ (List.mem_of_getElem? (i := 12) rfl))) Via.refl P3 ?_
    refine K.aloadN d3_12 (pc' := 13) rfl rfl rfl ?_
    refine K.getf d3_13 (pc' := 16) rfl (host := "") (Or.inl (hw _ (List.mem_of_getElem? (i := 14) rfl))) Via.refl P4 ?_
    obtain ⟨z16, e_z16⟩ : ∃ z, p + (2 : Int32) = z := ⟨_, rfl⟩
    have r_z16 : (z16.toInt - (p.toInt + 2)) % 4294967296 = 0 := by have q := c_iadd p (2 : Int32); rw [e_z16] at q; exact q
    have g_z16 := rng32 z16
    have t_z16 : z16.toInt = p.toInt + 2 := by omega
    clear r_z16
    clear g_z16
    refine K.iadd d3_16 (pc' := 17) rfl e_z16 ?_
    refine K.icmp_ge d3_17 (pc1 := 20) rfl (by decide) (pc2 := 38) (by decide) (a := p.toInt) (b := z16.toInt) rfl rfl (fun c17 => ?_) (fun c17 => ?_)
    · exfalso; omega
    · refine K.bipush d3_20 (pc' := 22) rfl (z := 31) rfl ?_
      refine K.iloadN d3_22 (pc' := 23) rfl rfl ?_
      refine K.imul d3_23 (pc' := 24) rfl (z := (31 : Int32)) (by decide) ?_
      refine K.aloadN d3_24 (pc' := 25) rfl rfl rfl ?_
      refine K.getf d3_25 (pc' := 28) rfl (host := "") (Or.inl (hw _ (List.mem_of_getElem? (i := 10) rfl))) Via.refl P2 ?_
      refine K.iloadN d3_28 (pc' := 29) rfl rfl ?_
      refine K.bald d3_29 (pc' := 30) rfl P5 (i := p.toInt.toNat + 0) (by omega) (v := (.int y0)) hv0 ?_
      refine K.iadd d3_30 (pc' := 31) rfl rfl ?_
      refine K.istoreN d3_31 (pc' := 32) rfl (L' := #[.val (.ref a), .val (.int ((31 : Int32) + y0)), .val (.int p)]) rfl ?_
      obtain ⟨z32, e_z32⟩ : ∃ z, p + (1 : Int32) = z := ⟨_, rfl⟩
      have r_z32 : (z32.toInt - (p.toInt + 1)) % 4294967296 = 0 := by have q := c_iadd p (1 : Int32); rw [e_z32] at q; exact q
      have g_z32 := rng32 z32
      have t_z32 : z32.toInt = p.toInt + 1 := by omega
      clear r_z32
      clear g_z32
      refine K.iinc d3_32 (pc' := 35) rfl rfl (z := z32) e_z32 (L' := #[.val (.ref a), .val (.int ((31 : Int32) + y0)), .val (.int z32)]) rfl ?_
      refine K.goto d3_35 (by decide) (pc' := 7) (by decide) ?_
      refine K.iloadN d3_7 (pc' := 8) rfl rfl ?_
      refine K.aloadN d3_8 (pc' := 9) rfl rfl rfl ?_
      refine K.getf d3_9 (pc' := 12) rfl (host := "") (Or.inl (hw _ (List.mem_of_getElem? (i := 12) rfl))) Via.refl P3 ?_
      refine K.aloadN d3_12 (pc' := 13) rfl rfl rfl ?_
      refine K.getf d3_13 (pc' := 16) rfl (host := "") (Or.inl (hw _ (List.mem_of_getElem? (i := 14) rfl))) Via.refl P4 ?_
      obtain ⟨z16_1, e_z16_1⟩ : ∃ z, p + (2 : Int32) = z := ⟨_, rfl⟩
      have r_z16_1 : (z16_1.toInt - (p.toInt + 2)) % 4294967296 = 0 := by have q := c_iadd p (2 : Int32); rw [e_z16_1] at q; exact q
      have g_z16_1 := rng32 z16_1
      have t_z16_1 : z16_1.toInt = p.toInt + 2 := by omega
      clear r_z16_1
      clear g_z16_1
      refine K.iadd d3_16 (pc' := 17) rfl e_z16_1 ?_
      refine K.icmp_ge d3_17 (pc1 := 20) rfl (by decide) (pc2 := 38) (by decide) (a := z32.toInt) (b := z16_1.toInt) rfl rfl (fun c17_1 => ?_) (fun c17_1 => ?_)
      · exfalso; omega
      · refine K.bipush d3_20 (pc' := 22) rfl (z := 31) rfl ?_
        refine K.iloadN d3_22 (pc' := 23) rfl rfl ?_
        refine K.imul d3_23 (pc' := 24) rfl rfl ?_
        refine K.aloadN d3_24 (pc' := 25) rfl rfl rfl ?_
        refine K.getf d3_25 (pc' := 28) rfl (host := "") (Or.inl (hw _ (List.mem_of_getElem? (i := 10) rfl))) Via.refl P2 ?_
        refine K.iloadN d3_28 (pc' := 29) rfl rfl ?_
        refine K.bald d3_29 (pc' := 30) rfl P5 (i := p.toInt.toNat + 1) (by omega) (v := (.int y1)) hv1 ?_
        refine K.iadd d3_30 (pc' := 31) rfl rfl ?_
        refine K.istoreN d3_31 (pc' := 32) rfl (L' := #[.val (.ref a), .val (.int (((31 : Int32) * ((31 : Int32) + y0)) + y1)), .val (.int z32)]) rfl ?_
        obtain ⟨z32_1, e_z32_1⟩ : ∃ z, z32 + (1 : Int32) = z := ⟨_, rfl⟩
        have r_z32_1 : (z32_1.toInt - (z32.toInt + 1)) % 4294967296 = 0 := by have q := c_iadd z32 (1 : Int32); rw [e_z32_1] at q; exact q
        have g_z32_1 := rng32 z32_1
        have t_z32_1 : z32_1.toInt = z32.toInt + 1 := by omega
        clear r_z32_1
        clear g_z32_1
        refine K.iinc d3_32 (pc' := 35) rfl rfl (z := z32_1) e_z32_1 (L' := #[.val (.ref a), .val (.int (((31 : Int32) * ((31 : Int32) + y0)) + y1)), .val (.int z32_1)]) rfl ?_
        refine K.goto d3_35 (by decide) (pc' := 7) (by decide) ?_
        refine K.iloadN d3_7 (pc' := 8) rfl rfl ?_
        refine K.aloadN d3_8 (pc' := 9) rfl rfl rfl ?_
        refine K.getf d3_9 (pc' := 12) rfl (host := "") (Or.inl (hw _ (List.mem_of_getElem? (i := 12) rfl))) Via.refl P3 ?_
        refine K.aloadN d3_12 (pc' := 13) rfl rfl rfl ?_
        refine K.getf d3_13 (pc' := 16) rfl (host := "") (Or.inl (hw _ (List.mem_of_getElem? (i := 14) rfl))) Via.refl P4 ?_
        obtain ⟨z16_2, e_z16_2⟩ : ∃ z, p + (2 : Int32) = z := ⟨_, rfl⟩
        have r_z16_2 : (z16_2.toInt - (p.toInt + 2)) % 4294967296 = 0 := by have q := c_iadd p (2 : Int32); rw [e_z16_2] at q; exact q
        have g_z16_2 := rng32 z16_2
        have t_z16_2 : z16_2.toInt = p.toInt + 2 := by omega
        clear r_z16_2
        clear g_z16_2
        refine K.iadd d3_16 (pc' := 17) rfl e_z16_2 ?_
        refine K.icmp_ge d3_17 (pc1 := 20) rfl (by decide) (pc2 := 38) (by decide) (a := z32_1.toInt) (b := z16_2.toInt) rfl rfl (fun c17_2 => ?_) (fun c17_2 => ?_)
        · refine K.iloadN d3_38 (pc' := 39) rfl rfl ?_
          exact K.reti d3_39 (by decide) (by decide) ⟨(((31 : Int32) * ((31 : Int32) + y0)) + y1), rfl, by refine ⟨?_, ?_, ?_, ?_, ?_⟩ <;> intro q <;> first | rfl | (exfalso; revert q; decide), rfl⟩
        · exfalso; omega
  · refine K.iconst d3_0 (pc' := 1) rfl (z := 1) rfl ?_
    refine K.istoreN d3_1 (pc' := 2) rfl (L' := #[.val (.ref a), .val (.int (1 : Int32)), .unset]) rfl ?_
    refine K.aloadN d3_2 (pc' := 3) rfl rfl rfl ?_
    refine K.getf d3_3 (pc' := 6) rfl (host := "") (Or.inl (hw _ (List.mem_of_getElem? (i := 12) rfl))) Via.refl P3 ?_
    refine K.istoreN d3_6 (pc' := 7) rfl (L' := #[.val (.ref a), .val (.int (1 : Int32)), .val (.int p)]) rfl ?_
    refine K.iloadN d3_7 (pc' := 8) rfl rfl ?_
    refine K.aloadN d3_8 (pc' := 9) rfl rfl rfl ?_
    refine K.getf d3_9 (pc' := 12) rfl (host := "") (Or.inl (hw _ (List.mem_of_getElem? (i := 12) rfl))) Via.refl P3 ?_
    refine K.aloadN d3_12 (pc' := 13) rfl rfl rfl ?_
    refine K.getf d3_13 (pc' := 16) rfl (host := "") (Or.inl (hw _ (List.mem_of_getElem? (i := 14) rfl))) Via.refl P4 ?_
    obtain ⟨z16, e_z16⟩ : ∃ z, p + (3 : Int32) = z := ⟨_, rfl⟩
    have r_z16 : (z16.toInt - (p.toInt + 3)) % 4294967296 = 0 := by have q := c_iadd p (3 : Int32); rw [e_z16] at q; exact q
    have g_z16 := rng32 z16
    have t_z16 : z16.toInt = p.toInt + 3 := by omega
    clear r_z16
    clear g_z16
    refine K.iadd d3_16 (pc' := 17) rfl e_z16 ?_
    refine K.icmp_ge d3_17 (pc1 := 20) rfl (by decide) (pc2 := 38) (by decide) (a := p.toInt) (b := z16.toInt) rfl rfl (fun c17 => ?_) (fun c17 => ?_)
    · exfalso; omega
    · refine K.bipush d3_20 (pc' := 22) rfl (z := 31) rfl ?_
      refine K.iloadN d3_22 (pc' := 23) rfl rfl ?_
      refine K.imul d3_23 (pc' := 24) rfl (z := (31 : Int32)) (by decide) ?_
      refine K.aloadN d3_24 (pc' := 25) rfl rfl rfl ?_
      refine K.getf d3_25 (pc' := 28) rfl (host := "") (Or.inl (hw _ (List.mem_of_getElem? (i := 10) rfl))) Via.refl P2 ?_
      refine K.iloadN d3_28 (pc' := 29) rfl rfl ?_
      refine K.bald d3_29 (pc' := 30) rfl P5 (i := p.toInt.toNat + 0) (by omega) (v := (.int y0)) hv0 ?_
      refine K.iadd d3_30 (pc' := 31) rfl rfl ?_
      refine K.istoreN d3_31 (pc' := 32) rfl (L' := #[.val (.ref a), .val (.int ((31 : Int32) + y0)), .val (.int p)]) rfl ?_
      obtain ⟨z32, e_z32⟩ : ∃ z, p + (1 : Int32) = z := ⟨_, rfl⟩
      have r_z32 : (z32.toInt - (p.toInt + 1)) % 4294967296 = 0 := by have q := c_iadd p (1 : Int32); rw [e_z32] at q; exact q
      have g_z32 := rng32 z32
      have t_z32 : z32.toInt = p.toInt + 1 := by omega
      clear r_z32
      clear g_z32
      refine K.iinc d3_32 (pc' := 35) rfl rfl (z := z32) e_z32 (L' := #[.val (.ref a), .val (.int ((31 : Int32) + y0)), .val (.int z32)]) rfl ?_
      refine K.goto d3_35 (by decide) (pc' := 7) (by decide) ?_
      refine K.iloadN d3_7 (pc' := 8) rfl rfl ?_
      refine K.aloadN d3_8 (pc' := 9) rfl rfl rfl ?_
      refine K.getf d3_9 (pc' := 12) rfl (host := "") (Or.inl (hw _ (List.mem_of_getElem? (i := 12) rfl))) Via.refl P3 ?_
      refine K.aloadN d3_12 (pc' := 13) rfl rfl rfl ?_
      refine K.getf d3_13 (pc' := 16) rfl (host := "") (Or.inl (hw _ (List.mem_of_getElem? (i := 14) rfl))) Via.refl P4 ?_
      obtain ⟨z16_1, e_z16_1⟩ : ∃ z, p + (3 : Int32) = z := ⟨_, rfl⟩
      have r_z16_1 : (z16_1.toInt - (p.toInt + 3)) % 4294967296 = 0 := by have q := c_iadd p (3 : Int32); rw [e_z16_1] at q; exact q
      have g_z16_1 := rng32 z16_1
      have t_z16_1 : z16_1.toInt = p.toInt + 3 := by omega
      clear r_z16_1
      clear g_z16_1
      refine K.iadd d3_16 (pc' := 17) rfl e_z16_1 ?_
      refine K.icmp_ge d3_17 (pc1 := 20) rfl (by decide) (pc2 := 38) (by decide) (a := z32.toInt) (b := z16_1.toInt) rfl rfl (fun c17_1 => ?_) (fun c17_1 => ?_)
      · exfalso; omega
      · refine K.bipush d3_20 (pc' := 22) rfl (z := 31) rfl ?_
        refine K.iloadN d3_22 (pc' := 23) rfl rfl ?_
        refine K.imul d3_23 (pc' := 24) rfl rfl ?_
        refine K.aloadN d3_24 (pc' := 25) rfl rfl rfl ?_
        refine K.getf d3_25 (pc' := 28) rfl (host := "") (Or.inl (hw _ (List.mem_of_getElem? (i := 10) rfl))) Via.refl P2 ?_
        refine K.iloadN d3_28 (pc' := 29) rfl rfl ?_
        refine K.bald d3_29 (pc' := 30) rfl P5 (i := p.toInt.toNat + 1) (by omega) (v := (.int y1)) hv1 ?_
        refine K.iadd d3_30 (pc' := 31) rfl rfl ?_
        refine K.istoreN d3_31 (pc' := 32) rfl (L' := #[.val (.ref a), .val (.int (((31 : Int32) * ((31 : Int32) + y0)) + y1)), .val (.int z32)]) rfl ?_
        obtain ⟨z32_1, e_z32_1⟩ : ∃ z, z32 + (1 : Int32) = z := ⟨_, rfl⟩
        have r_z32_1 : (z32_1.toInt - (z32.toInt + 1)) % 4294967296 = 0 := by have q := c_iadd z32 (1 : Int32); rw [e_z32_1] at q; exact q
        have g_z32_1 := rng32 z32_1
        have t_z32_1 : z32_1.toInt = z32.toInt + 1 := by omega
        clear r_z32_1
        clear g_z32_1
        refine K.iinc d3_32 (pc' := 35) rfl rfl (z := z32_1) e_z32_1 (L' := #[.val (.ref a), .val (.int (((31 : Int32) * ((31 : Int32) + y0)) + y1)), .val (.int z32_1)]) rfl ?_
        refine K.goto d3_35 (by decide) (pc' := 7) (by decide) ?_
        refine K.iloadN d3_7 (pc' := 8) rfl rfl ?_
        refine K.aloadN d3_8 (pc' := 9) rfl rfl rfl ?_
        refine K.getf d3_9 (pc' := 12) rfl (host := "") (Or.inl (hw _ (List.mem_of_getElem? (i := 12) rfl))) Via.refl P3 ?_
        refine K.aloadN d3_12 (pc' := 13) rfl rfl rfl ?_
        refine K.getf d3_13 (pc' := 16) rfl (host := "") (Or.inl (hw _ (List.mem_of_getElem? (i := 14) rfl))) Via.refl P4 ?_
        obtain ⟨z16_2, e_z16_2⟩ : ∃ z, p + (3 : Int32) = z := ⟨_, rfl⟩
        have r_z16_2 : (z16_2.toInt - (p.toInt + 3)) % 4294967296 = 0 := by have q := c_iadd p (3 : Int32); rw [e_z16_2] at q; exact q
        have g_z16_2 := rng32 z16_2
        have t_z16_2 : z16_2.toInt = p.toInt + 3 := by omega
        clear r_z16_2
        clear g_z16_2
        refine K.iadd d3_16 (pc' := 17) rfl e_z16_2 ?_
        refine K.icmp_ge d3_17 (pc1 := 20) rfl (by decide) (pc2 := 38) (by decide) (a := z32_1.toInt) (b := z16_2.toInt) rfl rfl (fun c17_2 => ?_) (fun c17_2 => ?_)
        · exfalso; omega
        · refine K.bipush d3_20 (pc' := 22) rfl (z := 31) rfl ?_
          refine K.iloadN d3_22 (pc' := 23) rfl rfl ?_
          refine K.imul d3_23 (pc' := 24) rfl rfl ?_
          refine K.aloadN d3_24 (pc' := 25) rfl rfl rfl ?_
          refine K.getf d3_25 (pc' := 28) rfl (host := "") (Or.inl (hw _ (List.mem_of_getElem? (i := 10) rfl))) Via.refl P2 ?_
          refine K.iloadN d3_28 (pc' := 29) rfl rfl ?_
          refine K.bald d3_29 (pc' := 30) rfl P5 (i := p.toInt.toNat + 2) (by omega) (v := (.int y2)) hv2 ?_
          refine K.iadd d3_30 (pc' := 31) rfl rfl ?_
          refine K.istoreN d3_31 (pc' := 32) rfl (L' := #[.val (.ref a), .val (.int (((31 : Int32) * (((31 : Int32) * ((31 : Int32) + y0)) + y1)) + y2)), .val (.int z32_1)]) rfl ?_
          obtain ⟨z32_2, e_z32_2⟩ : ∃ z, z32_1 + (1 : Int32) = z := ⟨_, rfl⟩
          have r_z32_2 : (z32_2.toInt - (z32_1.toInt + 1)) % 4294967296 = 0 := by have q := c_iadd z32_1 (1 : Int32); rw [e_z32_2] at q; exact q
          have g_z32_2 := rng32 z32_2
          have t_z32_2 : z32_2.toInt = z32_1.toInt + 1 := by omega
          clear r_z32_2
          clear g_z32_2
          refine K.iinc d3_32 (pc' := 35) rfl rfl (z := z32_2) e_z32_2 (L' := #[.val (.ref a), .val (.int (((31 : Int32) * (((31 : Int32) * ((31 : Int32) + y0)) + y1)) + y2)), .val (.int z32_2)]) rfl ?_
          refine K.goto d3_35 (by decide) (pc' := 7) (by decide) ?_
          refine K.iloadN d3_7 (pc' := 8) rfl rfl ?_
          refine K.aloadN d3_8 (pc' := 9) rfl rfl rfl ?_
          refine K.getf d3_9 (pc' := 12) rfl (host := "") (Or.inl (hw _ (List.mem_of_getElem? (i := 12) rfl))) Via.refl P3 ?_
          refine K.aloadN d3_12 (pc' := 13) rfl rfl rfl ?_
          refine K.getf d3_13 (pc' := 16) rfl (host := "") (Or.inl (hw _ (List.mem_of_getElem? (i := 14) rfl))) Via.refl P4 ?_
          obtain ⟨z16_3, e_z16_3⟩ : ∃ z, p + (3 : Int32) = z := ⟨_, rfl⟩
          have r_z16_3 : (z16_3.toInt - (p.toInt + 3)) % 4294967296 = 0 := by have q := c_iadd p (3 : Int32); rw [e_z16_3] at q; exact q
          have g_z16_3 := rng32 z16_3
          have t_z16_3 : z16_3.toInt = p.toInt + 3 := by omega
          clear r_z16_3
          clear g_z16_3
          refine K.iadd d3_16 (pc' := 17) rfl e_z16_3 ?_
          refine K.icmp_ge d3_17 (pc1 := 20) rfl (by decide) (pc2 := 38) (by decide) (a := z32_2.toInt) (b := z16_3.toInt) rfl rfl (fun c17_3 => ?_) (fun c17_3 => ?_)
          · refine K.iloadN d3_38 (pc' := 39) rfl rfl ?_
            exact K.reti d3_39 (by decide) (by decide) ⟨(((31 : Int32) * (((31 : Int32) * ((31 : Int32) + y0)) + y1)) + y2), rfl, by refine ⟨?_, ?_, ?_, ?_, ?_⟩ <;> intro q <;> first | rfl | (exfalso; revert q; decide), rfl⟩
          · exfalso; omega
  · refine K.iconst d3_0 (pc' := 1) rfl (z := 1) rfl ?_
    refine K.istoreN d3_1 (pc' := 2) rfl (L' := #[.val (.ref a), .val (.int (1 : Int32)), .unset]) rfl ?_
    refine K.aloadN d3_2 (pc' := 3) rfl rfl rfl ?_
    refine K.getf d3_3 (pc' := 6) rfl (host := "") (Or.inl (hw _ (List.mem_of_getElem? (i := 12) rfl))) Via.refl P3 ?_
    refine K.istoreN d3_6 (pc' := 7) rfl (L' := #[.val (.ref a), .val (.int (1 : Int32)), .val (.int p)]) rfl ?_
    refine K.iloadN d3_7 (pc' := 8) rfl rfl ?_
    refine K.aloadN d3_8 (pc' := 9) rfl rfl rfl ?_
    refine K.getf d3_9 (pc' := 12) rfl (host := "") (Or.inl (hw _ (List.mem_of_getElem? (i := 12) rfl))) Via.refl P3 ?_
    refine K.aloadN d3_12 (pc' := 13) rfl rfl rfl ?_
    refine K.getf d3_13 (pc' := 16) rfl (host := "") (Or.inl (hw _ (List.mem_of_getElem? (i := 14) rfl))) Via.refl P4 ?_
    obtain ⟨z16, e_z16⟩ : ∃ z, p + (4 : Int32) = z := ⟨_, rfl⟩
    have r_z16 : (z16.toInt - (p.toInt + 4)) % 4294967296 = 0 := by have q := c_iadd p (4 : Int32); rw [e_z16] at q; exact q
    have g_z16 := rng32 z16
    have t_z16 : z16.toInt = p.toInt + 4 := by omega
    clear r_z16
    clear g_z16
    refine K.iadd d3_16 (pc' := 17) rfl e_z16 ?_
    refine K.icmp_ge d3_17 (pc1 := 20) rfl (by decide) (pc2 := 38) (by decide) (a := p.toInt) (b := z16.toInt) rfl rfl (fun c17 => ?_) (fun c17 => ?_)
    · exfalso; omega
    · refine K.bipush d3_20 (pc' := 22) rfl (z := 31) rfl ?_
      refine K.iloadN d3_22 (pc' := 23) rfl rfl ?_
      refine K.imul d3_23 (pc' := 24) rfl (z := (31 : Int32)) (by decide) ?_
      refine K.aloadN d3_24 (pc' := 25) rfl rfl rfl ?_
      refine K.getf d3_25 (pc' := 28) rfl (host := "") (Or.inl (hw _ (List.mem_of_getElem? (i := 10) rfl))) Via.refl P2 ?_
      refine K.iloadN d3_28 (pc' := 29) rfl rfl ?_
      refine K.bald d3_29 (pc' := 30) rfl P5 (i := p.toInt.toNat + 0) (by omega) (v := (.int y0)) hv0 ?_
      refine K.iadd d3_30 (pc' := 31) rfl rfl ?_
      refine K.istoreN d3_31 (pc' := 32) rfl (L' := #[.val (.ref a), .val (.int ((31 : Int32) + y0)), .val (.int p)]) rfl ?_
      obtain ⟨z32, e_z32⟩ : ∃ z, p + (1 : Int32) = z := ⟨_, rfl⟩
      have r_z32 : (z32.toInt - (p.toInt + 1)) % 4294967296 = 0 := by have q := c_iadd p (1 : Int32); rw [e_z32] at q; exact q
      have g_z32 := rng32 z32
      have t_z32 : z32.toInt = p.toInt + 1 := by omega
      clear r_z32
      clear g_z32
      refine K.iinc d3_32 (pc' := 35) rfl rfl (z := z32) e_z32 (L' := #[.val (.ref a), .val (.int ((31 : Int32) + y0)), .val (.int z32)]) rfl ?_
      refine K.goto d3_35 (by decide) (pc' := 7) (by decide) ?_
      refine K.iloadN d3_7 (pc' := 8) rfl rfl ?_
      refine K.aloadN d3_8 (pc' := 9) rfl rfl rfl ?_
      refine K.getf d3_9 (pc' := 12) rfl (host := "") (Or.inl (hw _ (List.mem_of_getElem? (i := 12) rfl))) Via.refl P3 ?_
      refine K.aloadN d3_12 (pc' := 13) rfl rfl rfl ?_
      refine K.getf d3_13 (pc' := 16) rfl (host := "") (Or.inl (hw _ (List.mem_of_getElem? (i := 14) rfl))) Via.refl P4 ?_
      obtain ⟨z16_1, e_z16_1⟩ : ∃ z, p + (4 : Int32) = z := ⟨_, rfl⟩
      have r_z16_1 : (z16_1.toInt - (p.toInt + 4)) % 4294967296 = 0 := by have q := c_iadd p (4 : Int32); rw [e_z16_1] at q; exact q
      have g_z16_1 := rng32 z16_1
      have t_z16_1 : z16_1.toInt = p.toInt + 4 := by omega
      clear r_z16_1
      clear g_z16_1
      refine K.iadd d3_16 (pc' := 17) rfl e_z16_1 ?_
      refine K.icmp_ge d3_17 (pc1 := 20) rfl (by decide) (pc2 := 38) (by decide) (a := z32.toInt) (b := z16_1.toInt) rfl rfl (fun c17_1 => ?_) (fun c17_1 => ?_)
      · exfalso; omega
      · refine K.bipush d3_20 (pc' := 22) rfl (z := 31) rfl ?_
        refine K.iloadN d3_22 (pc' := 23) rfl rfl ?_
        refine K.imul d3_23 (pc' := 24) rfl rfl ?_
        refine K.aloadN d3_24 (pc' := 25) rfl rfl rfl ?_
        refine K.getf d3_25 (pc' := 28) rfl (host := "") (Or.inl (hw _ (List.mem_of_getElem? (i := 10) rfl))) Via.refl P2 ?_
        refine K.iloadN d3_28 (pc' := 29) rfl rfl ?_
        refine K.bald d3_29 (pc' := 30) rfl P5 (i := p.toInt.toNat + 1) (by omega) (v := (.int y1)) hv1 ?_
        refine K.iadd d3_30 (pc' := 31) rfl rfl ?_
        refine K.istoreN d3_31 (pc' := 32) rfl (L' := #[.val (.ref a), .val (.int (((31 : Int32) * ((31 : Int32) + y0)) + y1)), .val (.int z32)]) rfl ?_
        obtain ⟨z32_1, e_z32_1⟩ : ∃ z, z32 + (1 : Int32) = z := ⟨_, rfl⟩
        have r_z32_1 : (z32_1.toInt - (z32.toInt + 1)) % 4294967296 = 0 := by have q := c_iadd z32 (1 : Int32); rw [e_z32_1] at q; exact q
        have g_z32_1 := rng32 z32_1
        have t_z32_1 : z32_1.toInt = z32.toInt + 1 := by omega
        clear r_z32_1
        clear g_z32_1
        refine K.iinc d3_32 (pc' := 35) rfl rfl (z := z32_1) e_z32_1 (L' := #[.val (.ref a), .val (.int (((31 : Int32) * ((31 : Int32) + y0)) + y1)), .val (.int z32_1)]) rfl ?_
        refine K.goto d3_35 (by decide) (pc' := 7) (by decide) ?_
        refine K.iloadN d3_7 (pc' := 8) rfl rfl ?_
        refine K.aloadN d3_8 (pc' := 9) rfl rfl rfl ?_
        refine K.getf d3_9 (pc' := 12) rfl (host := "") (Or.inl (hw _ (List.mem_of_getElem? (i := 12) rfl))) Via.refl P3 ?_
        refine K.aloadN d3_12 (pc' := 13) rfl rfl rfl ?_
        refine K.getf d3_13 (pc' := 16) rfl (host := "") (Or.inl (hw _ (List.mem_of_getElem? (i := 14) rfl))) Via.refl P4 ?_
        obtain ⟨z16_2, e_z16_2⟩ : ∃ z, p + (4 : Int32) = z := ⟨_, rfl⟩
        have r_z16_2 : (z16_2.toInt - (p.toInt + 4)) % 4294967296 = 0 := by have q := c_iadd p (4 : Int32); rw [e_z16_2] at q; exact q
        have g_z16_2 := rng32 z16_2
        have t_z16_2 : z16_2.toInt = p.toInt + 4 := by omega
        clear r_z16_2
        clear g_z16_2
        refine K.iadd d3_16 (pc' := 17) rfl e_z16_2 ?_
        refine K.icmp_ge d3_17 (pc1 := 20) rfl (by decide) (pc2 := 38) (by decide) (a := z32_1.toInt) (b := z16_2.toInt) rfl rfl (fun c17_2 => ?_) (fun c17_2 => ?_)
        · exfalso; omega
        · refine K.bipush d3_20 (pc' := 22) rfl (z := 31) rfl ?_
          refine K.iloadN d3_22 (pc' := 23) rfl rfl ?_
          refine K.imul d3_23 (pc' := 24) rfl rfl ?_
          refine K.aloadN d3_24 (pc' := 25) rfl rfl rfl ?_
          refine K.getf d3_25 (pc' := 28) rfl (host := "") (Or.inl (hw _ (List.mem_of_getElem? (i := 10) rfl))) Via.refl P2 ?_
          refine K.iloadN d3_28 (pc' := 29) rfl rfl ?_
          refine K.bald d3_29 (pc' := 30) rfl P5 (i := p.toInt.toNat + 2) (by omega) (v := (.int y2)) hv2 ?_
          refine K.iadd d3_30 (pc' := 31) rfl rfl ?_
          refine K.istoreN d3_31 (pc' := 32) rfl (L' := #[.val (.ref a), .val (.int (((31 : Int32) * (((31 : Int32) * ((31 : Int32) + y0)) + y1)) + y2)), .val (.int z32_1)]) rfl ?_
          obtain ⟨z32_2, e_z32_2⟩ : ∃ z, z32_1 + (1 : Int32) = z := ⟨_, rfl⟩
          have r_z32_2 : (z32_2.toInt - (z32_1.toInt + 1)) % 4294967296 = 0 := by have q := c_iadd z32_1 (1 : Int32); rw [e_z32_2] at q; exact q
          have g_z32_2 := rng32 z32_2
          have t_z32_2 : z32_2.toInt = z32_1.toInt + 1 := by omega
          clear r_z32_2
          clear g_z32_2
          refine K.iinc d3_32 (pc' := 35) rfl rfl (z := z32_2) e_z32_2 (L' := #[.val (.ref a), .val (.int (((31 : Int32) * (((31 : Int32) * ((31 : Int32) + y0)) + y1)) + y2)), .val (.int z32_2)]) rfl ?_
          refine K.goto d3_35 (by decide) (pc' := 7) (by decide) ?_
          refine K.iloadN d3_7 (pc' := 8) rfl rfl ?_
          refine K.aloadN d3_8 (pc' := 9) rfl rfl rfl ?_
          refine K.getf d3_9 (pc' := 12) rfl (host := "") (Or.inl (hw _ (List.mem_of_getElem? (i := 12) rfl))) Via.refl P3 ?_
          refine K.aloadN d3_12 (pc' := 13) rfl rfl rfl ?_
          refine K.getf d3_13 (pc' := 16) rfl (host := "") (Or.inl (hw _ (List.mem_of_getElem? (i := 14) rfl))) Via.refl P4 ?_
          obtain ⟨z16_3, e_z16_3⟩ : ∃ z, p + (4 : Int32) = z := ⟨_, rfl⟩
          have r_z16_3 : (z16_3.toInt - (p.toInt + 4)) % 4294967296 = 0 := by have q := c_iadd p (4 : Int32); rw [e_z16_3] at q; exact q
          have g_z16_3 := rng32 z16_3
          have t_z16_3 : z16_3.toInt = p.toInt + 4 := by omega
          clear r_z16_3
          clear g_z16_3
          refine K.iadd d3_16 (pc' := 17) rfl e_z16_3 ?_
          refine K.icmp_ge d3_17 (pc1 := 20) rfl (by decide) (pc2 := 38) (by decide) (a := z32_2.toInt) (b := z16_3.toInt) rfl rfl (fun c17_3 => ?_) (fun c17_3 => ?_)
          · exfalso; omega
          · refine K.bipush d3_20 (pc' := 22) rfl (z := 31) rfl ?_
            refine K.iloadN d3_22 (pc' := 23) rfl rfl ?_
            refine K.imul d3_23 (pc' := 24) rfl rfl ?_
            refine K.aloadN d3_24 (pc' := 25) rfl rfl rfl ?_
            refine K.getf d3_25 (pc' := 28) rfl (host := "") (Or.inl (hw _ (List.mem_of_getElem? (i := 10) rfl))) Via.refl P2 ?_
            refine K.iloadN d3_28 (pc' := 29) rfl rfl ?_
            refine K.bald d3_29 (pc' := 30) rfl P5 (i := p.toInt.toNat + 3) (by omega) (v := (.int y3)) hv3 ?_
            refine K.iadd d3_30 (pc' := 31) rfl rfl ?_
            refine K.istoreN d3_31 (pc' := 32) rfl (L' := #[.val (.ref a), .val (.int (((31 : Int32) * (((31 : Int32) * (((31 : Int32) * ((31 : Int32) + y0)) + y1)) + y2)) + y3)), .val (.int z32_2)]) rfl ?_
            obtain ⟨z32_3, e_z32_3⟩ : ∃ z, z32_2 + (1 : Int32) = z := ⟨_, rfl⟩
            have r_z32_3 : (z32_3.toInt - (z32_2.toInt + 1)) % 4294967296 = 0 := by have q := c_iadd z32_2 (1 : Int32); rw [e_z32_3] at q; exact q
            have g_z32_3 := rng32 z32_3
            have t_z32_3 : z32_3.toInt = z32_2.toInt + 1 := by omega
            clear r_z32_3
            clear g_z32_3
            refine K.iinc d3_32 (pc' := 35) rfl rfl (z := z32_3) e_z32_3 (L' := #[.val (.ref a), .val (.int (((31 : Int32) * (((31 : Int32) * (((31 : Int32) * ((31 : Int32) + y0)) + y1)) + y2)) + y3)), .val (.int z32_3)]) rfl ?_
            refine K.goto d3_35 (by decide) (pc' := 7) (by decide) ?_
            refine K.iloadN d3_7 (pc' := 8) rfl rfl ?_
            refine K.aloadN d3_8 (pc' := 9) rfl rfl rfl ?_
            refine K.getf d3_9 (pc' := 12) rfl (host := "") (Or.inl (hw _ (List.mem_of_getElem? (i := 12) rfl))) Via.refl P3 ?_
            refine K.aloadN d3_12 (pc' := 13) rfl rfl rfl ?_
            refine K.getf d3_13 (pc' := 16) rfl (host := "") (Or.inl (hw _ (List.mem_of_getElem? (i := 14) rfl))) Via.refl P4 ?_
            obtain ⟨z16_4, e_z16_4⟩ : ∃ z, p + (4 : Int32) = z := ⟨_, rfl⟩
            have r_z16_4 : (z16_4.toInt - (p.toInt + 4)) % 4294967296 = 0 := by have q := c_iadd p (4 : Int32); rw [e_z16_4] at q; exact q
            have g_z16_4 := rng32 z16_4
            have t_z16_4 : z16_4.toInt = p.toInt + 4 := by omega
            clear r_z16_4
            clear g_z16_4
            refine K.iadd d3_16 (pc' := 17) rfl e_z16_4 ?_
            refine K.icmp_ge d3_17 (pc1 := 20) rfl (by decide) (pc2 := 38) (by decide) (a := z32_3.toInt) (b := z16_4.toInt) rfl rfl (fun c17_4 => ?_) (fun c17_4 => ?_)
            · refine K.iloadN d3_38 (pc' := 39) rfl rfl ?_
              exact K.reti d3_39 (by decide) (by decide) ⟨(((31 : Int32) * (((31 : Int32) * (((31 : Int32) * ((31 : Int32) + y0)) + y1)) + y2)) + y3), rfl, by refine ⟨?_, ?_, ?_, ?_, ?_⟩ <;> intro q <;> first | rfl | (exfalso; revert q; decide), rfl⟩
            · exfalso; omega
theorem pd_0 : parseMethodDescriptor "([BII)V" = some ⟨[(.array .byte), .int, .int], none⟩ := by decide +kernel
theorem pd_1 : parseMethodDescriptor "()I" = some ⟨[], some .int⟩ := by decide +kernel
theorem pn_com_example_nestwire_nestwire_codec_RlpBytesHashCodePinLaw : plainName "com/example/nestwire/nestwire/codec/RlpBytesHashCodePinLaw" = true := by first | (simp [plainName, overriddenIn]; done) | decide +kernel
set_option maxRecDepth 65536 in
set_option maxHeartbeats 40000000 in
theorem c_law (l : Launch) (Z : State) (a0 : Array Value) (hw : ∀ d ∈ tables_1, d.before a0 Z = true) (n0 : Nat) (h : Heap) (q0 : Int64) (sl : Int32) (Z0 : n0 ≤ h.size) : MeetsW l Z n0 x code maxLocals ret room_1 #[(.long q0), (.int sl)] h (fun v h' => v = some (.int 1)) := by
  refine MeetsW.intro (plainFor_of_name pn_com_example_nestwire_nestwire_codec_RlpBytesHashCodePinLaw) (L0 := #[.val (.long q0), .second, .val (.int sl), .unset, .unset, .unset, .unset, .unset, .unset, .unset, .unset, .unset]) (fun m => by first | (simp [entryFrame, mkF, argsToLocals, Value.category, maxLocals]; done) | rfl) ?_
  intro m G K0
  have K : Cx l room_1 Z n0 _ "com/example/nestwire/nestwire/codec/RlpBytesHashCodePinLaw" "law" code 12 (some .boolean) m G := K0
  refine K.bipush at_0 (pc' := 2) rfl (z := 8) rfl ?_
  refine K.newa at_2 (pc' := 4) rfl (hw _ (List.mem_of_getElem? (i := 0) rfl)) (k := 8) (cap := 8) rfl (by decide) (by decide) (by decide) (by decide) (ad := "[B") (by decide) (fun h_2 a_1 g_a_1 E_3 A_4 x_a_1 => ?_)
  have ge_a_1 : n0 ≤ a_1 := g_a_1 ▸ Z0
  have sz_5 : n0 ≤ h_2.size := Nat.le_trans Z0 E_3.1
  have A_6 : Ary Z h_2 a_1 .byte [(.int (0 : Int32)), (.int (0 : Int32)), (.int (0 : Int32)), (.int (0 : Int32)), (.int (0 : Int32)), (.int (0 : Int32)), (.int (0 : Int32)), (.int (0 : Int32))] := A_4
  refine K.astoreN at_4 (pc' := 5) rfl rfl (L' := #[.val (.long q0), .second, .val (.int sl), .val (.ref a_1), .unset, .unset, .unset, .unset, .unset, .unset, .unset, .unset]) rfl ?_
  refine K.aloadN at_5 (pc' := 6) rfl rfl rfl ?_
  refine K.iconst at_6 (pc' := 7) rfl (z := 0) rfl ?_
  refine K.lloadN at_7 (pc' := 8) rfl rfl ?_
  obtain ⟨z8, e_z8⟩ : ∃ z, q0.toInt32 = z := ⟨_, rfl⟩
  refine K.l2i at_8 (pc' := 9) rfl e_z8 ?_
  obtain ⟨z9, e_z9⟩ : ∃ z, z8.toInt8.toInt32 = z := ⟨_, rfl⟩
  have r_z9 : (z9.toInt - z8.toInt) % 256 = 0 ∧ -128 ≤ z9.toInt ∧ z9.toInt < 128 := by have q := c_i2b z8; rw [e_z9] at q; exact q
  refine K.i2b at_9 (pc' := 10) rfl e_z9 ?_
  refine K.bast at_10 (pc' := 11) rfl A_6 (i := 0) rfl (show 0 < 8 by decide) ge_a_1 (fun h_7 W_8 A_9 => ?_)
  rw [show nar .byte z9 = z9 from nar_byte_of (by omega)] at W_8 A_9
  have sz_11 : n0 ≤ h_7.size := Nat.le_trans sz_5 (Keep.of_wr W_8).1
  have A_12 : Ary Z h_7 a_1 .byte [(.int z9), (.int (0 : Int32)), (.int (0 : Int32)), (.int (0 : Int32)), (.int (0 : Int32)), (.int (0 : Int32)), (.int (0 : Int32)), (.int (0 : Int32))] := A_9
  refine K.aloadN at_11 (pc' := 12) rfl rfl rfl ?_
  refine K.iconst at_12 (pc' := 13) rfl (z := 1) rfl ?_
  refine K.lloadN at_13 (pc' := 14) rfl rfl ?_
  refine K.bipush at_14 (pc' := 16) rfl (z := 8) rfl ?_
  obtain ⟨z16, e_z16⟩ : ∃ z, (q0.toUInt64 >>> ((8 : Int32) &&& 0x3f).toInt64.toUInt64).toInt64 = z := ⟨_, rfl⟩
  refine K.lushr at_16 (pc' := 17) rfl e_z16 ?_
  obtain ⟨z17, e_z17⟩ : ∃ z, z16.toInt32 = z := ⟨_, rfl⟩
  refine K.l2i at_17 (pc' := 18) rfl e_z17 ?_
  obtain ⟨z18, e_z18⟩ : ∃ z, z17.toInt8.toInt32 = z := ⟨_, rfl⟩
  have r_z18 : (z18.toInt - z17.toInt) % 256 = 0 ∧ -128 ≤ z18.toInt ∧ z18.toInt < 128 := by have q := c_i2b z17; rw [e_z18] at q; exact q
  refine K.i2b at_18 (pc' := 19) rfl e_z18 ?_
  refine K.bast at_19 (pc' := 20) rfl A_12 (i := 1) rfl (show 1 < 8 by decide) ge_a_1 (fun h_13 W_14 A_15 => ?_)
  rw [show nar .byte z18 = z18 from nar_byte_of (by omega)] at W_14 A_15
  have sz_17 : n0 ≤ h_13.size := Nat.le_trans sz_11 (Keep.of_wr W_14).1
  have A_18 : Ary Z h_13 a_1 .byte [(.int z9), (.int z18), (.int (0 : Int32)), (.int (0 : Int32)), (.int (0 : Int32)), (.int (0 : Int32)), (.int (0 : Int32)), (.int (0 : Int32))] := A_15
  refine K.aloadN at_20 (pc' := 21) rfl rfl rfl ?_
  refine K.iconst at_21 (pc' := 22) rfl (z := 2) rfl ?_
  refine K.lloadN at_22 (pc' := 23) rfl rfl ?_
  refine K.bipush at_23 (pc' := 25) rfl (z := 16) rfl ?_
  obtain ⟨z25, e_z25⟩ : ∃ z, (q0.toUInt64 >>> ((16 : Int32) &&& 0x3f).toInt64.toUInt64).toInt64 = z := ⟨_, rfl⟩
  refine K.lushr at_25 (pc' := 26) rfl e_z25 ?_
  obtain ⟨z26, e_z26⟩ : ∃ z, z25.toInt32 = z := ⟨_, rfl⟩
  refine K.l2i at_26 (pc' := 27) rfl e_z26 ?_
  obtain ⟨z27, e_z27⟩ : ∃ z, z26.toInt8.toInt32 = z := ⟨_, rfl⟩
  have r_z27 : (z27.toInt - z26.toInt) % 256 = 0 ∧ -128 ≤ z27.toInt ∧ z27.toInt < 128 := by have q := c_i2b z26; rw [e_z27] at q; exact q
  refine K.i2b at_27 (pc' := 28) rfl e_z27 ?_
  refine K.bast at_28 (pc' := 29) rfl A_18 (i := 2) rfl (show 2 < 8 by decide) ge_a_1 (fun h_19 W_20 A_21 => ?_)
  rw [show nar .byte z27 = z27 from nar_byte_of (by omega)] at W_20 A_21
  have sz_23 : n0 ≤ h_19.size := Nat.le_trans sz_17 (Keep.of_wr W_20).1
  have A_24 : Ary Z h_19 a_1 .byte [(.int z9), (.int z18), (.int z27), (.int (0 : Int32)), (.int (0 : Int32)), (.int (0 : Int32)), (.int (0 : Int32)), (.int (0 : Int32))] := A_21
  refine K.aloadN at_29 (pc' := 30) rfl rfl rfl ?_
  refine K.iconst at_30 (pc' := 31) rfl (z := 3) rfl ?_
  refine K.lloadN at_31 (pc' := 32) rfl rfl ?_
  refine K.bipush at_32 (pc' := 34) rfl (z := 24) rfl ?_
  obtain ⟨z34, e_z34⟩ : ∃ z, (q0.toUInt64 >>> ((24 : Int32) &&& 0x3f).toInt64.toUInt64).toInt64 = z := ⟨_, rfl⟩
  refine K.lushr at_34 (pc' := 35) rfl e_z34 ?_
  obtain ⟨z35, e_z35⟩ : ∃ z, z34.toInt32 = z := ⟨_, rfl⟩
  refine K.l2i at_35 (pc' := 36) rfl e_z35 ?_
  obtain ⟨z36, e_z36⟩ : ∃ z, z35.toInt8.toInt32 = z := ⟨_, rfl⟩
  have r_z36 : (z36.toInt - z35.toInt) % 256 = 0 ∧ -128 ≤ z36.toInt ∧ z36.toInt < 128 := by have q := c_i2b z35; rw [e_z36] at q; exact q
  refine K.i2b at_36 (pc' := 37) rfl e_z36 ?_
  refine K.bast at_37 (pc' := 38) rfl A_24 (i := 3) rfl (show 3 < 8 by decide) ge_a_1 (fun h_25 W_26 A_27 => ?_)
  rw [show nar .byte z36 = z36 from nar_byte_of (by omega)] at W_26 A_27
  have sz_29 : n0 ≤ h_25.size := Nat.le_trans sz_23 (Keep.of_wr W_26).1
  have A_30 : Ary Z h_25 a_1 .byte [(.int z9), (.int z18), (.int z27), (.int z36), (.int (0 : Int32)), (.int (0 : Int32)), (.int (0 : Int32)), (.int (0 : Int32))] := A_27
  refine K.aloadN at_38 (pc' := 39) rfl rfl rfl ?_
  refine K.iconst at_39 (pc' := 40) rfl (z := 4) rfl ?_
  refine K.lloadN at_40 (pc' := 41) rfl rfl ?_
  refine K.bipush at_41 (pc' := 43) rfl (z := 32) rfl ?_
  obtain ⟨z43, e_z43⟩ : ∃ z, (q0.toUInt64 >>> ((32 : Int32) &&& 0x3f).toInt64.toUInt64).toInt64 = z := ⟨_, rfl⟩
  refine K.lushr at_43 (pc' := 44) rfl e_z43 ?_
  obtain ⟨z44, e_z44⟩ : ∃ z, z43.toInt32 = z := ⟨_, rfl⟩
  refine K.l2i at_44 (pc' := 45) rfl e_z44 ?_
  obtain ⟨z45, e_z45⟩ : ∃ z, z44.toInt8.toInt32 = z := ⟨_, rfl⟩
  have r_z45 : (z45.toInt - z44.toInt) % 256 = 0 ∧ -128 ≤ z45.toInt ∧ z45.toInt < 128 := by have q := c_i2b z44; rw [e_z45] at q; exact q
  refine K.i2b at_45 (pc' := 46) rfl e_z45 ?_
  refine K.bast at_46 (pc' := 47) rfl A_30 (i := 4) rfl (show 4 < 8 by decide) ge_a_1 (fun h_31 W_32 A_33 => ?_)
  rw [show nar .byte z45 = z45 from nar_byte_of (by omega)] at W_32 A_33
  have sz_35 : n0 ≤ h_31.size := Nat.le_trans sz_29 (Keep.of_wr W_32).1
  have A_36 : Ary Z h_31 a_1 .byte [(.int z9), (.int z18), (.int z27), (.int z36), (.int z45), (.int (0 : Int32)), (.int (0 : Int32)), (.int (0 : Int32))] := A_33
  refine K.aloadN at_47 (pc' := 48) rfl rfl rfl ?_
  refine K.iconst at_48 (pc' := 49) rfl (z := 5) rfl ?_
  refine K.lloadN at_49 (pc' := 50) rfl rfl ?_
  refine K.bipush at_50 (pc' := 52) rfl (z := 40) rfl ?_
  obtain ⟨z52, e_z52⟩ : ∃ z, (q0.toUInt64 >>> ((40 : Int32) &&& 0x3f).toInt64.toUInt64).toInt64 = z := ⟨_, rfl⟩
  refine K.lushr at_52 (pc' := 53) rfl e_z52 ?_
  obtain ⟨z53, e_z53⟩ : ∃ z, z52.toInt32 = z := ⟨_, rfl⟩
  refine K.l2i at_53 (pc' := 54) rfl e_z53 ?_
  obtain ⟨z54, e_z54⟩ : ∃ z, z53.toInt8.toInt32 = z := ⟨_, rfl⟩
  have r_z54 : (z54.toInt - z53.toInt) % 256 = 0 ∧ -128 ≤ z54.toInt ∧ z54.toInt < 128 := by have q := c_i2b z53; rw [e_z54] at q; exact q
  refine K.i2b at_54 (pc' := 55) rfl e_z54 ?_
  refine K.bast at_55 (pc' := 56) rfl A_36 (i := 5) rfl (show 5 < 8 by decide) ge_a_1 (fun h_37 W_38 A_39 => ?_)
  rw [show nar .byte z54 = z54 from nar_byte_of (by omega)] at W_38 A_39
  have sz_41 : n0 ≤ h_37.size := Nat.le_trans sz_35 (Keep.of_wr W_38).1
  have A_42 : Ary Z h_37 a_1 .byte [(.int z9), (.int z18), (.int z27), (.int z36), (.int z45), (.int z54), (.int (0 : Int32)), (.int (0 : Int32))] := A_39
  refine K.aloadN at_56 (pc' := 57) rfl rfl rfl ?_
  refine K.bipush at_57 (pc' := 59) rfl (z := 6) rfl ?_
  refine K.lloadN at_59 (pc' := 60) rfl rfl ?_
  refine K.bipush at_60 (pc' := 62) rfl (z := 48) rfl ?_
  obtain ⟨z62, e_z62⟩ : ∃ z, (q0.toUInt64 >>> ((48 : Int32) &&& 0x3f).toInt64.toUInt64).toInt64 = z := ⟨_, rfl⟩
  refine K.lushr at_62 (pc' := 63) rfl e_z62 ?_
  obtain ⟨z63, e_z63⟩ : ∃ z, z62.toInt32 = z := ⟨_, rfl⟩
  refine K.l2i at_63 (pc' := 64) rfl e_z63 ?_
  obtain ⟨z64, e_z64⟩ : ∃ z, z63.toInt8.toInt32 = z := ⟨_, rfl⟩
  have r_z64 : (z64.toInt - z63.toInt) % 256 = 0 ∧ -128 ≤ z64.toInt ∧ z64.toInt < 128 := by have q := c_i2b z63; rw [e_z64] at q; exact q
  refine K.i2b at_64 (pc' := 65) rfl e_z64 ?_
  refine K.bast at_65 (pc' := 66) rfl A_42 (i := 6) rfl (show 6 < 8 by decide) ge_a_1 (fun h_43 W_44 A_45 => ?_)
  rw [show nar .byte z64 = z64 from nar_byte_of (by omega)] at W_44 A_45
  have sz_47 : n0 ≤ h_43.size := Nat.le_trans sz_41 (Keep.of_wr W_44).1
  have A_48 : Ary Z h_43 a_1 .byte [(.int z9), (.int z18), (.int z27), (.int z36), (.int z45), (.int z54), (.int z64), (.int (0 : Int32))] := A_45
  refine K.aloadN at_66 (pc' := 67) rfl rfl rfl ?_
  refine K.bipush at_67 (pc' := 69) rfl (z := 7) rfl ?_
  refine K.lloadN at_69 (pc' := 70) rfl rfl ?_
  refine K.bipush at_70 (pc' := 72) rfl (z := 56) rfl ?_
  obtain ⟨z72, e_z72⟩ : ∃ z, (q0.toUInt64 >>> ((56 : Int32) &&& 0x3f).toInt64.toUInt64).toInt64 = z := ⟨_, rfl⟩
  refine K.lushr at_72 (pc' := 73) rfl e_z72 ?_
  obtain ⟨z73, e_z73⟩ : ∃ z, z72.toInt32 = z := ⟨_, rfl⟩
  refine K.l2i at_73 (pc' := 74) rfl e_z73 ?_
  obtain ⟨z74, e_z74⟩ : ∃ z, z73.toInt8.toInt32 = z := ⟨_, rfl⟩
  have r_z74 : (z74.toInt - z73.toInt) % 256 = 0 ∧ -128 ≤ z74.toInt ∧ z74.toInt < 128 := by have q := c_i2b z73; rw [e_z74] at q; exact q
  refine K.i2b at_74 (pc' := 75) rfl e_z74 ?_
  refine K.bast at_75 (pc' := 76) rfl A_48 (i := 7) rfl (show 7 < 8 by decide) ge_a_1 (fun h_49 W_50 A_51 => ?_)
  rw [show nar .byte z74 = z74 from nar_byte_of (by omega)] at W_50 A_51
  have sz_53 : n0 ≤ h_49.size := Nat.le_trans sz_47 (Keep.of_wr W_50).1
  have A_54 : Ary Z h_49 a_1 .byte [(.int z9), (.int z18), (.int z27), (.int z36), (.int z45), (.int z54), (.int z64), (.int z74)] := A_51
  refine K.iloadN at_76 (pc' := 77) rfl rfl ?_
  refine K.iconst at_77 (pc' := 78) rfl (z := 3) rfl ?_
  obtain ⟨start, e_start⟩ : ∃ z, sl &&& (3 : Int32) = z := ⟨_, rfl⟩
  have r_start : start.toInt = sl.toInt % 4 := by have q := c_mask sl (3 : Int32) 2 (by decide) (by decide); rw [e_start] at q; exact q
  refine K.iand at_78 (pc' := 79) rfl e_start ?_
  refine K.istore at_79 (pc' := 81) rfl (L' := #[.val (.long q0), .second, .val (.int sl), .val (.ref a_1), .val (.int start), .unset, .unset, .unset, .unset, .unset, .unset, .unset]) rfl ?_
  refine K.iloadN at_81 (pc' := 82) rfl rfl ?_
  refine K.iconst at_82 (pc' := 83) rfl (z := 2) rfl ?_
  obtain ⟨z83, e_z83⟩ : ∃ z, (sl.toUInt32 >>> ((2 : Int32) &&& 31).toUInt32).toInt32 = z := ⟨_, rfl⟩
  have r_z83 : z83.toInt = (sl.toInt % 4294967296) / 4 := by have q := c_iushr sl (2 : Int32) 2 (by decide) (by decide); rw [e_z83] at q; exact q
  refine K.iushr at_83 (pc' := 84) rfl e_z83 ?_
  refine K.bipush at_84 (pc' := 86) rfl (z := 7) rfl ?_
  obtain ⟨z86, e_z86⟩ : ∃ z, z83 &&& (7 : Int32) = z := ⟨_, rfl⟩
  have r_z86 : z86.toInt = z83.toInt % 8 := by have q := c_mask z83 (7 : Int32) 3 (by decide) (by decide); rw [e_z86] at q; exact q
  refine K.iand at_86 (pc' := 87) rfl e_z86 ?_
  refine K.iconst at_87 (pc' := 88) rfl (z := 5) rfl ?_
  obtain ⟨len, e_len⟩ : ∃ z, z86 % (5 : Int32) = z := ⟨_, rfl⟩
  have r_len : (0 ≤ z86.toInt → len.toInt = z86.toInt % 5) ∧ (z86.toInt < 0 → len.toInt = -((-z86.toInt) % 5)) := by have q := c_irem z86 (5 : Int32) 5 rfl; rw [e_len] at q; exact q
  have t_len : 0 ≤ len.toInt ∧ len.toInt ≤ 4 := by omega
  clear r_len
  refine K.irem at_88 (pc' := 89) rfl (by decide) e_len ?_
  refine K.istore at_89 (pc' := 91) rfl (L' := #[.val (.long q0), .second, .val (.int sl), .val (.ref a_1), .val (.int start), .val (.int len), .unset, .unset, .unset, .unset, .unset, .unset]) rfl ?_
  refine K.aloadN at_91 (pc' := 92) rfl rfl rfl ?_
  refine K.iload at_92 (pc' := 94) rfl rfl ?_
  obtain ⟨b0, hb0⟩ : ∃ b : Int32, ([(.int z9), (.int z18), (.int z27), (.int z36), (.int z45), (.int z54), (.int z64), (.int z74)] : List Value)[start.toInt.toNat + 0]? = some (.int b) := by
    rcases (by omega : start.toInt = 0 ∨ start.toInt = 1 ∨ start.toInt = 2 ∨ start.toInt = 3) with q | q | q | q <;> rw [q] <;> exact ⟨_, rfl⟩
  refine K.bald at_94 (pc' := 95) rfl A_54 (i := start.toInt.toNat + 0) (by omega) (v := (.int b0)) hb0 ?_
  refine K.istore at_95 (pc' := 97) rfl (L' := #[.val (.long q0), .second, .val (.int sl), .val (.ref a_1), .val (.int start), .val (.int len), .val (.int b0), .unset, .unset, .unset, .unset, .unset]) rfl ?_
  refine K.aloadN at_97 (pc' := 98) rfl rfl rfl ?_
  refine K.iload at_98 (pc' := 100) rfl rfl ?_
  refine K.iconst at_100 (pc' := 101) rfl (z := 1) rfl ?_
  obtain ⟨z101, e_z101⟩ : ∃ z, start + (1 : Int32) = z := ⟨_, rfl⟩
  have r_z101 : (z101.toInt - (start.toInt + 1)) % 4294967296 = 0 := by have q := c_iadd start (1 : Int32); rw [e_z101] at q; exact q
  have g_z101 := rng32 z101
  have t_z101 : z101.toInt = start.toInt + 1 := by omega
  clear r_z101
  clear g_z101
  refine K.iadd at_101 (pc' := 102) rfl e_z101 ?_
  obtain ⟨b1, hb1⟩ : ∃ b : Int32, ([(.int z9), (.int z18), (.int z27), (.int z36), (.int z45), (.int z54), (.int z64), (.int z74)] : List Value)[start.toInt.toNat + 1]? = some (.int b) := by
    rcases (by omega : start.toInt = 0 ∨ start.toInt = 1 ∨ start.toInt = 2 ∨ start.toInt = 3) with q | q | q | q <;> rw [q] <;> exact ⟨_, rfl⟩
  refine K.bald at_102 (pc' := 103) rfl A_54 (i := start.toInt.toNat + 1) (by omega) (v := (.int b1)) hb1 ?_
  refine K.istore at_103 (pc' := 105) rfl (L' := #[.val (.long q0), .second, .val (.int sl), .val (.ref a_1), .val (.int start), .val (.int len), .val (.int b0), .val (.int b1), .unset, .unset, .unset, .unset]) rfl ?_
  refine K.aloadN at_105 (pc' := 106) rfl rfl rfl ?_
  refine K.iload at_106 (pc' := 108) rfl rfl ?_
  refine K.iconst at_108 (pc' := 109) rfl (z := 2) rfl ?_
  obtain ⟨z109, e_z109⟩ : ∃ z, start + (2 : Int32) = z := ⟨_, rfl⟩
  have r_z109 : (z109.toInt - (start.toInt + 2)) % 4294967296 = 0 := by have q := c_iadd start (2 : Int32); rw [e_z109] at q; exact q
  have g_z109 := rng32 z109
  have t_z109 : z109.toInt = start.toInt + 2 := by omega
  clear r_z109
  clear g_z109
  refine K.iadd at_109 (pc' := 110) rfl e_z109 ?_
  obtain ⟨b2, hb2⟩ : ∃ b : Int32, ([(.int z9), (.int z18), (.int z27), (.int z36), (.int z45), (.int z54), (.int z64), (.int z74)] : List Value)[start.toInt.toNat + 2]? = some (.int b) := by
    rcases (by omega : start.toInt = 0 ∨ start.toInt = 1 ∨ start.toInt = 2 ∨ start.toInt = 3) with q | q | q | q <;> rw [q] <;> exact ⟨_, rfl⟩
  refine K.bald at_110 (pc' := 111) rfl A_54 (i := start.toInt.toNat + 2) (by omega) (v := (.int b2)) hb2 ?_
  refine K.istore at_111 (pc' := 113) rfl (L' := #[.val (.long q0), .second, .val (.int sl), .val (.ref a_1), .val (.int start), .val (.int len), .val (.int b0), .val (.int b1), .val (.int b2), .unset, .unset, .unset]) rfl ?_
  refine K.aloadN at_113 (pc' := 114) rfl rfl rfl ?_
  refine K.iload at_114 (pc' := 116) rfl rfl ?_
  refine K.iconst at_116 (pc' := 117) rfl (z := 3) rfl ?_
  obtain ⟨z117, e_z117⟩ : ∃ z, start + (3 : Int32) = z := ⟨_, rfl⟩
  have r_z117 : (z117.toInt - (start.toInt + 3)) % 4294967296 = 0 := by have q := c_iadd start (3 : Int32); rw [e_z117] at q; exact q
  have g_z117 := rng32 z117
  have t_z117 : z117.toInt = start.toInt + 3 := by omega
  clear r_z117
  clear g_z117
  refine K.iadd at_117 (pc' := 118) rfl e_z117 ?_
  obtain ⟨b3, hb3⟩ : ∃ b : Int32, ([(.int z9), (.int z18), (.int z27), (.int z36), (.int z45), (.int z54), (.int z64), (.int z74)] : List Value)[start.toInt.toNat + 3]? = some (.int b) := by
    rcases (by omega : start.toInt = 0 ∨ start.toInt = 1 ∨ start.toInt = 2 ∨ start.toInt = 3) with q | q | q | q <;> rw [q] <;> exact ⟨_, rfl⟩
  refine K.bald at_118 (pc' := 119) rfl A_54 (i := start.toInt.toNat + 3) (by omega) (v := (.int b3)) hb3 ?_
  refine K.istore at_119 (pc' := 121) rfl (L' := #[.val (.long q0), .second, .val (.int sl), .val (.ref a_1), .val (.int start), .val (.int len), .val (.int b0), .val (.int b1), .val (.int b2), .val (.int b3), .unset, .unset]) rfl ?_
  have J228 : ∀ (w : Int32), ((len.toInt = 0 → w = 1) ∧ (len.toInt = 1 → w = 31 + b0) ∧ (len.toInt = 2 → w = 961 + 31 * b0 + b1) ∧ (len.toInt = 3 → w = 29791 + 961 * b0 + 31 * b1 + b2) ∧ (len.toInt = 4 → w = 923521 + 29791 * b0 + 961 * b1 + 31 * b2 + b3)) → G h_49 1 8 (mkF m 228 #[.val (.long q0), .second, .val (.int sl), .val (.ref a_1), .val (.int start), .val (.int len), .val (.int b0), .val (.int b1), .val (.int b2), .val (.int b3), .val (.int w), .unset] []) := by
    intro w hex
    refine K.newo at_228 (pc' := 231) rfl (hw _ (List.mem_of_getElem? (i := 1) rfl)) (hw _ (List.mem_of_getElem? (i := 2) rfl)) (hw _ (List.mem_of_getElem? (i := 3) rfl)) (by decide) (by decide) (fun h_56 o_55 g_o_55 E_57 x_o_55 D_o_55 => ?_)
    have ne_a_1_o_55 : a_1 ≠ o_55 := Nat.ne_of_lt (g_o_55 ▸ A_54.lt)
    have ge_o_55 : n0 ≤ o_55 := g_o_55 ▸ sz_53
    have f_58 : Ary Z h_56 a_1 .byte [(.int z9), (.int z18), (.int z27), (.int z36), (.int z45), (.int z54), (.int z64), (.int z74)] := A_54.ext E_57
    have sz_59 : n0 ≤ h_56.size := Nat.le_trans sz_53 E_57.1
    have f_60 : Fld Z h_56 o_55 "com/example/nestwire/nestwire/codec/RlpBytes" "source" "[B" .null := D_o_55 (Or.inr (hw _ (List.mem_of_getElem? (i := 11) rfl))) (ty := (.array .byte)) (by decide)
    have f_61 : Fld Z h_56 o_55 "com/example/nestwire/nestwire/codec/RlpBytes" "start" "I" (.int (0 : Int32)) := D_o_55 (Or.inr (hw _ (List.mem_of_getElem? (i := 13) rfl))) (ty := .int) (by decide)
    have f_62 : Fld Z h_56 o_55 "com/example/nestwire/nestwire/codec/RlpBytes" "length" "I" (.int (0 : Int32)) := D_o_55 (Or.inr (hw _ (List.mem_of_getElem? (i := 15) rfl))) (ty := .int) (by decide)
    refine K.dup at_231 (pc' := 232) rfl rfl ?_
    refine K.aloadN at_232 (pc' := 233) rfl rfl rfl ?_
    refine K.iload at_233 (pc' := 235) rfl rfl ?_
    refine K.iload at_235 (pc' := 237) rfl rfl ?_
    refine K.callc (argsL := [(.ref a_1), (.int start), (.int len)]) (rest := [(.ref o_55)]) at_237 (pc' := 240) rfl rfl (c_new l Z a0 hw n0 h_56 (a := o_55) (b := a_1) (p := start) (n := len) x_o_55 f_60 f_61 f_62 ge_o_55) (hw _ (List.mem_of_getElem? (i := 4) rfl)) (hw _ (List.mem_of_getElem? (i := 5) rfl)) (hw _ (List.mem_of_getElem? (i := 3) rfl)) (hw _ (List.mem_of_getElem? (i := 6) rfl)) (by decide) pd_0 rfl rfl (W := 1) (by simp [Value.category]) (by decide) (by decide) (by decide) (by decide) (fun v_65 h_63 q_64 => ?_)
    obtain ⟨rfl, K_67, f_68, f_69, f_70⟩ := q_64
    have f_71 : Ary Z h_63 a_1 .byte [(.int z9), (.int z18), (.int z27), (.int z36), (.int z45), (.int z54), (.int z64), (.int z74)] := f_58.keep K_67 (ninS ne_a_1_o_55 nin0)
    have f_72 : Exa Z h_63 o_55 "com/example/nestwire/nestwire/codec/RlpBytes" := x_o_55.keep K_67
    have sz_76 : n0 ≤ h_63.size := Nat.le_trans sz_59 K_67.1
    show G h_63 2 11 (mkF m 240 #[.val (.long q0), .second, .val (.int sl), .val (.ref a_1), .val (.int start), .val (.int len), .val (.int b0), .val (.int b1), .val (.int b2), .val (.int b3), .val (.int w), .unset] [(.ref o_55)])
    refine K.astore at_240 (pc' := 242) rfl rfl (L' := #[.val (.long q0), .second, .val (.int sl), .val (.ref a_1), .val (.int start), .val (.int len), .val (.int b0), .val (.int b1), .val (.int b2), .val (.int b3), .val (.int w), .val (.ref o_55)]) rfl ?_
    refine K.aload at_242 (pc' := 244) rfl rfl rfl ?_
    refine K.callv (z := (⟨"com/example/nestwire/nestwire/codec/RlpBytes", "hashCode", "()I"⟩ : MethodName)) (argsL := []) (rest := []) at_244 (pc' := 247) rfl (c_hash l Z a0 hw n0 h_63 (a := o_55) (b := a_1) (p := start) (n := len) (vs := [(.int z9), (.int z18), (.int z27), (.int z36), (.int z45), (.int z54), (.int z64), (.int z74)]) (y0 := b0) (y1 := b1) (y2 := b2) (y3 := b3) f_72 f_68 f_69 f_70 f_71 (by omega) (by omega) hb0 hb1 hb2 hb3) f_72 (hw _ (List.mem_of_getElem? (i := 16) rfl)) (hw _ (List.mem_of_getElem? (i := 17) rfl)) (nf_sel (hw _ (List.mem_of_getElem? (i := 19) rfl)) rfl) (hw _ (List.mem_of_getElem? (i := 19) rfl)) (hw _ (List.mem_of_getElem? (i := 18) rfl)) (hw _ (List.mem_of_getElem? (i := 3) rfl)) (hw _ (List.mem_of_getElem? (i := 20) rfl)) (by decide) pd_1 rfl rfl (W := 0) (by simp [Value.category]) (by decide) (by decide) (by decide) (by decide) (fun v_79 h_77 q_78 => ?_)
    obtain ⟨hs, rfl, t_hs, rfl⟩ := q_78
    show G h_63 2 11 (mkF m 247 #[.val (.long q0), .second, .val (.int sl), .val (.ref a_1), .val (.int start), .val (.int len), .val (.int b0), .val (.int b1), .val (.int b2), .val (.int b3), .val (.int w), .val (.ref o_55)] [(.int hs)])
    refine K.iload at_247 (pc' := 249) rfl rfl ?_
    refine K.icmp_ne at_249 (pc1 := 252) rfl (by decide) (pc2 := 256) (by decide) (a := hs.toInt) (b := w.toInt) rfl rfl (fun c249 => ?_) (fun c249 => ?_)
    · exfalso; apply c249; rcases (by omega : len.toInt = 0 ∨ len.toInt = 1 ∨ len.toInt = 2 ∨ len.toInt = 3 ∨ len.toInt = 4) with q | q | q | q | q
      · rw [t_hs.1 q, hex.1 q]
      · rw [t_hs.2.1 q, hex.2.1 q]; congr 1 <;> grind
      · rw [t_hs.2.2.1 q, hex.2.2.1 q]; congr 1 <;> grind
      · rw [t_hs.2.2.2.1 q, hex.2.2.2.1 q]; congr 1 <;> grind
      · rw [t_hs.2.2.2.2 q, hex.2.2.2.2 q]; congr 1 <;> grind
    · refine K.iconst at_252 (pc' := 253) rfl (z := 1) rfl ?_
      refine K.goto at_253 (by decide) (pc' := 257) (by decide) ?_
      exact K.retz at_257 (Or.inr rfl) (by decide) (by decide) rfl
  refine K.iload at_121 (pc' := 123) rfl rfl ?_
  refine K.if_ne at_123 (pc1 := 126) rfl (by decide) (pc2 := 132) (by decide) (a := len.toInt) rfl (fun c123 => ?_) (fun c123 => ?_)
  · refine K.iload at_132 (pc' := 134) rfl rfl ?_
    refine K.iconst at_134 (pc' := 135) rfl (z := 1) rfl ?_
    refine K.icmp_ne at_135 (pc1 := 138) rfl (by decide) (pc2 := 148) (by decide) (a := len.toInt) (b := 1) rfl rfl (fun c135 => ?_) (fun c135 => ?_)
    · refine K.iload at_148 (pc' := 150) rfl rfl ?_
      refine K.iconst at_150 (pc' := 151) rfl (z := 2) rfl ?_
      refine K.icmp_ne at_151 (pc1 := 154) rfl (by decide) (pc2 := 171) (by decide) (a := len.toInt) (b := 2) rfl rfl (fun c151 => ?_) (fun c151 => ?_)
      · refine K.iload at_171 (pc' := 173) rfl rfl ?_
        refine K.iconst at_173 (pc' := 174) rfl (z := 3) rfl ?_
        refine K.icmp_ne at_174 (pc1 := 177) rfl (by decide) (pc2 := 201) (by decide) (a := len.toInt) (b := 3) rfl rfl (fun c174 => ?_) (fun c174 => ?_)
        · refine K.ldcI at_201 (pc' := 203) rfl (hw _ (List.mem_of_getElem? (i := 21) rfl)) ?_
          refine K.sipush at_203 (pc' := 206) rfl (z := 29791) rfl ?_
          refine K.iload at_206 (pc' := 208) rfl rfl ?_
          refine K.imul at_208 (pc' := 209) rfl rfl ?_
          refine K.iadd at_209 (pc' := 210) rfl rfl ?_
          refine K.sipush at_210 (pc' := 213) rfl (z := 961) rfl ?_
          refine K.iload at_213 (pc' := 215) rfl rfl ?_
          refine K.imul at_215 (pc' := 216) rfl rfl ?_
          refine K.iadd at_216 (pc' := 217) rfl rfl ?_
          refine K.bipush at_217 (pc' := 219) rfl (z := 31) rfl ?_
          refine K.iload at_219 (pc' := 221) rfl rfl ?_
          refine K.imul at_221 (pc' := 222) rfl rfl ?_
          refine K.iadd at_222 (pc' := 223) rfl rfl ?_
          refine K.iload at_223 (pc' := 225) rfl rfl ?_
          refine K.iadd at_225 (pc' := 226) rfl rfl ?_
          refine K.istore at_226 (pc' := 228) rfl (L' := #[.val (.long q0), .second, .val (.int sl), .val (.ref a_1), .val (.int start), .val (.int len), .val (.int b0), .val (.int b1), .val (.int b2), .val (.int b3), .val (.int (((((923521 : Int32) + ((29791 : Int32) * b0)) + ((961 : Int32) * b1)) + ((31 : Int32) * b2)) + b3)), .unset]) rfl ?_
          exact J228 _ (by refine ⟨?_, ?_, ?_, ?_, ?_⟩ <;> intro q <;> first | rfl | (exfalso; omega))
        · refine K.sipush at_177 (pc' := 180) rfl (z := 29791) rfl ?_
          refine K.sipush at_180 (pc' := 183) rfl (z := 961) rfl ?_
          refine K.iload at_183 (pc' := 185) rfl rfl ?_
          refine K.imul at_185 (pc' := 186) rfl rfl ?_
          refine K.iadd at_186 (pc' := 187) rfl rfl ?_
          refine K.bipush at_187 (pc' := 189) rfl (z := 31) rfl ?_
          refine K.iload at_189 (pc' := 191) rfl rfl ?_
          refine K.imul at_191 (pc' := 192) rfl rfl ?_
          refine K.iadd at_192 (pc' := 193) rfl rfl ?_
          refine K.iload at_193 (pc' := 195) rfl rfl ?_
          refine K.iadd at_195 (pc' := 196) rfl rfl ?_
          refine K.istore at_196 (pc' := 198) rfl (L' := #[.val (.long q0), .second, .val (.int sl), .val (.ref a_1), .val (.int start), .val (.int len), .val (.int b0), .val (.int b1), .val (.int b2), .val (.int b3), .val (.int ((((29791 : Int32) + ((961 : Int32) * b0)) + ((31 : Int32) * b1)) + b2)), .unset]) rfl ?_
          refine K.goto at_198 (by decide) (pc' := 228) (by decide) ?_
          exact J228 _ (by refine ⟨?_, ?_, ?_, ?_, ?_⟩ <;> intro q <;> first | rfl | (exfalso; omega))
      · refine K.sipush at_154 (pc' := 157) rfl (z := 961) rfl ?_
        refine K.bipush at_157 (pc' := 159) rfl (z := 31) rfl ?_
        refine K.iload at_159 (pc' := 161) rfl rfl ?_
        refine K.imul at_161 (pc' := 162) rfl rfl ?_
        refine K.iadd at_162 (pc' := 163) rfl rfl ?_
        refine K.iload at_163 (pc' := 165) rfl rfl ?_
        refine K.iadd at_165 (pc' := 166) rfl rfl ?_
        refine K.istore at_166 (pc' := 168) rfl (L' := #[.val (.long q0), .second, .val (.int sl), .val (.ref a_1), .val (.int start), .val (.int len), .val (.int b0), .val (.int b1), .val (.int b2), .val (.int b3), .val (.int (((961 : Int32) + ((31 : Int32) * b0)) + b1)), .unset]) rfl ?_
        refine K.goto at_168 (by decide) (pc' := 228) (by decide) ?_
        exact J228 _ (by refine ⟨?_, ?_, ?_, ?_, ?_⟩ <;> intro q <;> first | rfl | (exfalso; omega))
    · refine K.bipush at_138 (pc' := 140) rfl (z := 31) rfl ?_
      refine K.iload at_140 (pc' := 142) rfl rfl ?_
      refine K.iadd at_142 (pc' := 143) rfl rfl ?_
      refine K.istore at_143 (pc' := 145) rfl (L' := #[.val (.long q0), .second, .val (.int sl), .val (.ref a_1), .val (.int start), .val (.int len), .val (.int b0), .val (.int b1), .val (.int b2), .val (.int b3), .val (.int ((31 : Int32) + b0)), .unset]) rfl ?_
      refine K.goto at_145 (by decide) (pc' := 228) (by decide) ?_
      exact J228 _ (by refine ⟨?_, ?_, ?_, ?_, ?_⟩ <;> intro q <;> first | rfl | (exfalso; omega))
  · refine K.iconst at_126 (pc' := 127) rfl (z := 1) rfl ?_
    refine K.istore at_127 (pc' := 129) rfl (L' := #[.val (.long q0), .second, .val (.int sl), .val (.ref a_1), .val (.int start), .val (.int len), .val (.int b0), .val (.int b1), .val (.int b2), .val (.int b3), .val (.int (1 : Int32)), .unset]) rfl ?_
    refine K.goto at_129 (by decide) (pc' := 228) (by decide) ?_
    exact J228 _ (by refine ⟨?_, ?_, ?_, ?_, ?_⟩ <;> intro q <;> first | rfl | (exfalso; omega))
set_option maxRecDepth 65536 in
set_option maxHeartbeats 40000000 in
theorem comes_1 {Post : Tables → Env → Array Value → State → Outcome → State → Prop} (hpost : ∀ tb e args s v u, (limb_1_1.after args s (.returned v) u = true ∧ limb_1_2.after args s (.returned v) u = true ∧ True) → FrameEnd s (.returned v) u (Jvm.fieldLocs frame_1_writes args s ++ Jvm.arrayLocs frame_1_arrays args s ++ Jvm.staticLocs frame_1_statics s) 16 128 → Post tb e args s (.returned v) u) :
    ArmFor flags0 classFile x code maxLocals ret World_1 tables_1 room_1 Calls_1 rest_1 Pre_1 Post := by
  intro l hfl _ _ p e ha hc hk s m args below hf hA hF happ hP
  obtain ⟨hcalls, hrest, hpre⟩ := hP
  obtain ⟨-, -, -, hnamed, -, -, -, hat⟩ := (Spec.applies_iff hf).mp happ
  obtain ⟨hg, hn⟩ := and_e (Cond.before_iff.mp (show (Jvm.Cond.and given_1 narrow_1).before args s = true from hpre))
  obtain ⟨k0, j0⟩ := and_e hg
  obtain ⟨k1, j1⟩ := and_e j0
  obtain ⟨w0, w1, rfl⟩ : ∃ w0 w1 : Value, args = #[w0, w1] := by
    have hs : args.size = 2 := by simpa [Cond.value, given_1] using k0
    obtain ⟨L⟩ := args
    match L, hs with
    | [w0, w1], _ => exact ⟨w0, w1, rfl⟩
  have hw := fun d (hd : d ∈ tables_1) => atoms_spec (ws := Jvm.Cond.code x code maxLocals ret :: tables_1) hat d (List.mem_cons_of_mem _ hd)
  have hfit : Fit s := fun {y c} hc i hi => by
    obtain ⟨ha, rfl⟩ := Array.getElem?_eq_some_iff.mp hc
    have q := List.all_eq_true.mp ((Array.all_eq_true_iff_forall_mem.mp hF) _ (Array.getElem_mem ha)) i (List.mem_range.mpr hi)
    simpa [Array.getElem?_eq_getElem hi] using q
  obtain ⟨i0, ei0⟩ := isL_v k1
  obtain rfl : w0 = (.long i0) := Option.some.inj ei0
  obtain ⟨i1, ei1⟩ := is_v j1
  obtain rfl : w1 = (.int i1) := Option.some.inj ei1
  obtain ⟨n, o, h1, h2, h3, _, L, rfl, ⟨rfl, N⟩, hq⟩ := c_law l s _ hw s.heap.size s.heap i0 i1 (Nat.le_refl _)  tables_1 p e ha hc hk s m _ below hf ((Spec.applies_iff_loose hf).mp happ).1 ⟨rfl, State.Warmed39.refl s, rfl⟩ trivial
  refine ⟨n, _, h1, h2, h3, hpost _ _ _ _ _ _ ⟨Cond.after_iff.mpr rfl, Cond.after_iff.mpr (eq_i res_at (Term.int_eval (1)) rfl), trivial⟩ ⟨hq.1, hq.2.1, (hq.2.2.sift fun y hy => Or.inr (N y hy)).mono (by decide) (by decide)⟩⟩
theorem main_1_1 : Claimed_1_1 := comes_1 fun _ _ _ _ _ _ h hF => ⟨h.1, hF⟩
theorem main_1_2 : Claimed_1_2 := comes_1 fun _ _ _ _ _ _ h hF => ⟨h.2.1, hF⟩
end Jvm.Pilot.@@N@@
namespace Jvm.Pilot.@@N@@
open Jvm Jvm.ClassFile Sem Op Lib Jvm.Free Jvm.Stand Jvm.Pilot.@@N@@.Jvm.D
/-! MADE BY PROGRAM (witnessworld.py) out of the Statement's table words and the real class files: 10 classes; the members and pool entries that the words name. The judged class is class 1, her method 1. -/
namespace start1
open Jvm.ClassFile
def u (s : String) : CpInfo := .utf8 (stringToUtf16 s)
/-- a pool by its gaps: so many unusable entries, then the entry; so many at the end -/
def gap : Nat → List CpInfo → List CpInfo
  | 0, r => r
  | n + 1, r => .unusable :: gap n r
def poolList (es : List (Nat × CpInfo)) (last : Nat) : List CpInfo := es.foldr (fun e r => gap e.1 (e.2 :: r)) (gap last [])
def pool (es : List (Nat × CpInfo)) (last : Nat) : Array CpInfo := ⟨poolList es last⟩
def fileOf (pool : Array CpInfo) (this : Nat) (attrs : Array Attribute := #[]) (ms : Array MethodInfo := #[]) (fl : Nat := 33) (sup : Nat := 0) (ifs : Array Nat := #[]) (fds : Array FieldInfo := #[]) : ClassFile where
  minorVersion := 0
  majorVersion := 65
  constantPool := pool
  accessFlags := fl
  thisClass := this
  superClass := sup
  interfaces := ifs
  fields := fds
  methods := ms
  attributes := attrs
def plain (name : String) (sup : Option ClassId) : Class where
  name := name
  kind := .ordinary
  loader := none
  accessFlags := 33
  super := sup
  interfaces := #[]
  cf := none
  fields := #[]
  methods := #[]
  instanceTypes := #[]
  staticTypes := #[]
  resolved := #[]
  callSites := []
  init := .initialized
  statics := none
  mirror := none

def pool0 : Array CpInfo := pool [(5, u "<init>"), (0, u "()V"), (1, .class_ 10), (1, u "java/lang/Object")] 113

def k0c0 : Code := { maxStack := 0, maxLocals := 1, code := object_method_1_code, exceptionTable := #[], attributes := #[] }
def k0m0 : Method := { name := "<init>", desc := "()V", sig := { parameters := [], returnType := none }, accessFlags := 1, code := some k0c0 }
/-- java/lang/Object -/
def k0 : Class := { plain "java/lang/Object" none with
  accessFlags := 33
  interfaces := #[]
  cf := some (fileOf pool0 8 #[] #[{ accessFlags := 1, nameIndex := 5, descriptorIndex := 6, attributes := #[] }] 33 0 #[] #[])
  fields := #[]
  methods := #[k0m0]
  instanceTypes := #[]
  staticTypes := #[]
  resolved := Array.replicate 124 none
  statics := none }

def pool1 : Array CpInfo := pool [(2, .class_ 4), (1, u "java/lang/Object"), (0, u "<init>"), (0, u "()V"), (0, .integer 923521), (0, .class_ 9), (0, u "com/example/nestwire/nestwire/codec/RlpBytes"), (0, .methodref 8 11), (0, .nameAndType 5 12), (0, u "([BII)V"), (0, .methodref 8 14), (0, .nameAndType 15 16), (0, u "hashCode"), (0, u "()I"), (0, .class_ 18), (0, u "com/example/nestwire/nestwire/codec/RlpBytesHashCodePinLaw"), (2, u "law"), (0, u "(JI)Z")] 5

def k1m0 : Method := { name := "<init>", desc := "()V", sig := { parameters := [], returnType := none }, accessFlags := 2, code := none }
def k1c1 : Code := { maxStack := 5, maxLocals := 12, code := code, exceptionTable := #[], attributes := #[] }
def k1m1 : Method := { name := "law", desc := "(JI)Z", sig := { parameters := [.long, .int], returnType := some .boolean }, accessFlags := 9, code := some k1c1 }
/-- com/example/nestwire/nestwire/codec/RlpBytesHashCodePinLaw -/
def k1 : Class := { plain "com/example/nestwire/nestwire/codec/RlpBytesHashCodePinLaw" (some 0) with
  accessFlags := 49
  interfaces := #[]
  cf := some (fileOf pool1 17 #[] #[{ accessFlags := 2, nameIndex := 5, descriptorIndex := 6, attributes := #[] }, { accessFlags := 9, nameIndex := 21, descriptorIndex := 22, attributes := #[] }] 49 2 #[] #[])
  fields := #[]
  methods := #[k1m0, k1m1]
  instanceTypes := #[]
  staticTypes := #[]
  resolved := Array.replicate 28 none
  statics := none }

def pool2 : Array CpInfo := pool [(2, .class_ 4), (1, u "com/example/nestwire/nestwire/codec/RlpItem"), (8, .class_ 14), (0, u "java/lang/Object")] 20

/-- com/example/nestwire/nestwire/codec/RlpItem -/
def k2 : Class := { plain "com/example/nestwire/nestwire/codec/RlpItem" (some 0) with
  accessFlags := 1537
  interfaces := #[]
  cf := some (fileOf pool2 2 #[] #[] 1537 13 #[] #[])
  fields := #[]
  methods := #[]
  instanceTypes := #[]
  staticTypes := #[]
  resolved := Array.replicate 35 none
  statics := none }

def pool3 : Array CpInfo := pool [(3, .methodref 4 5), (0, .class_ 6), (0, .nameAndType 7 8), (0, u "java/lang/Object"), (0, u "<init>"), (0, u "()V"), (0, .fieldref 10 11), (0, .class_ 12), (0, .nameAndType 13 14), (0, u "com/example/nestwire/nestwire/codec/RlpBytes"), (0, u "source"), (0, u "[B"), (0, .fieldref 10 16), (0, .nameAndType 17 18), (0, u "start"), (0, u "I"), (0, .fieldref 10 20), (0, .nameAndType 21 18), (0, u "length"), (2, u "([BII)V"), (26, u "TAIL_VALUE"), (0, u "Ljava/lang/invoke/VarHandle;"), (81, .class_ 135), (0, u "com/example/nestwire/nestwire/codec/RlpItem"), (0, u "TAIL"), (18, u "hashCode"), (0, u "()I")] 20

def k3c0 : Code := { maxStack := 2, maxLocals := 4, code := prog_21_method_1_code, exceptionTable := #[], attributes := #[] }
def k3m0 : Method := { name := "<init>", desc := "([BII)V", sig := { parameters := [(.array .byte), .int, .int], returnType := none }, accessFlags := 0, code := some k3c0 }
def k3c1 : Code := { maxStack := 3, maxLocals := 3, code := prog_21_method_14_code, exceptionTable := #[], attributes := #[] }
def k3m1 : Method := { name := "hashCode", desc := "()I", sig := { parameters := [], returnType := some .int }, accessFlags := 1, code := some k3c1 }
/-- com/example/nestwire/nestwire/codec/RlpBytes -/
def k3 : Class := { plain "com/example/nestwire/nestwire/codec/RlpBytes" (some 0) with
  accessFlags := 49
  interfaces := #[2]
  cf := some (fileOf pool3 10 #[] #[{ accessFlags := 0, nameIndex := 7, descriptorIndex := 24, attributes := #[] }, { accessFlags := 1, nameIndex := 155, descriptorIndex := 156, attributes := #[] }] 49 4 #[134] #[{ accessFlags := 26, nameIndex := 136, descriptorIndex := 18, attributes := #[] }, { accessFlags := 26, nameIndex := 51, descriptorIndex := 52, attributes := #[] }, { accessFlags := 16, nameIndex := 13, descriptorIndex := 14, attributes := #[] }, { accessFlags := 16, nameIndex := 17, descriptorIndex := 18, attributes := #[] }, { accessFlags := 16, nameIndex := 21, descriptorIndex := 18, attributes := #[] }])
  fields := #[{ name := "TAIL", type := .int, accessFlags := 26, slot := 0, constantValue := 0 }, { name := "TAIL_VALUE", type := (.object "java/lang/invoke/VarHandle"), accessFlags := 26, slot := 1, constantValue := 0 }, { name := "source", type := (.array .byte), accessFlags := 16, slot := 0, constantValue := 0 }, { name := "start", type := .int, accessFlags := 16, slot := 1, constantValue := 0 }, { name := "length", type := .int, accessFlags := 16, slot := 2, constantValue := 0 }]
  methods := #[k3m0, k3m1]
  instanceTypes := #[(.array .byte), .int, .int]
  staticTypes := #[.int, (.object "java/lang/invoke/VarHandle")]
  resolved := Array.replicate 177 none
  statics := none }

def pool4 : Array CpInfo := pool [(1, u "java/lang/Cloneable"), (0, .class_ 1), (0, u "java/lang/Object"), (0, .class_ 3)] 3

/-- java/lang/Cloneable -/
def k4 : Class := { plain "java/lang/Cloneable" (some 0) with
  accessFlags := 1537
  interfaces := #[]
  cf := some (fileOf pool4 2 #[] #[] 1537 4 #[] #[])
  fields := #[]
  methods := #[]
  instanceTypes := #[]
  staticTypes := #[]
  resolved := Array.replicate 8 none
  statics := none }

def pool5 : Array CpInfo := pool [(1, u "java/io/Serializable"), (0, .class_ 1), (0, u "java/lang/Object"), (0, .class_ 3)] 3

/-- java/io/Serializable -/
def k5 : Class := { plain "java/io/Serializable" (some 0) with
  accessFlags := 1537
  interfaces := #[]
  cf := some (fileOf pool5 2 #[] #[] 1537 4 #[] #[])
  fields := #[]
  methods := #[]
  instanceTypes := #[]
  staticTypes := #[]
  resolved := Array.replicate 8 none
  statics := none }

/-- the primitive byte -/
def k6 : Class := { plain "byte" none with kind := .primitive 'B', accessFlags := 0x411 }
/-- [B -/
def k7 : Class := { plain "[B" (some 0) with kind := .array 6 .byte, interfaces := #[4, 5], accessFlags := 1041 }

/-- the primitive int -/
def k8 : Class := { plain "int" none with kind := .primitive 'I', accessFlags := 0x411 }
/-- [I -/
def k9 : Class := { plain "[I" (some 0) with kind := .array 8 .int, interfaces := #[4, 5], accessFlags := 1041 }

def heap : Heap := #[]
def classes : Array Class := #[k0, k1, k2, k3, k4, k5, k6, k7, k8, k9]
def interned : List (Array UInt16 × Addr) := []
def slotsUsed : Nat := 0
def theMethod : MethodId := ⟨1, 1⟩
def args0 : Array Value := #[.long 5, .int 7]
def aboutOver (below : List Frame) : State where
  vm := { classes := classes, interned := interned.toArray }
  heap := heap
  slotsUsed := slotsUsed
  threads := #[{ frames := .invoking theMethod args0 :: below }]
def below0 : List Frame := [.native { method := ⟨0, 0⟩, args := #[] }]
def about1 : State := aboutOver below0
def p0 : Program := .bare "" "" ""
def e0 : Env := launch0.env 0 0 0
theorem w_frames : about1.frames = Frame.invoking theMethod args0 :: below0 := rfl
set_option maxRecDepth 65536 in
theorem w_args : argsFit about1.vm theMethod args0 = true := by decide +kernel
set_option maxRecDepth 65536 in
theorem w_heap : heapFits about1 = true := by decide +kernel
set_option maxRecDepth 65536 in
theorem w_runnable : about1.curStatus? = some .runnable := by decide +kernel
set_option maxRecDepth 65536 in
theorem w_alone : about1.alone = true := by decide +kernel
set_option maxRecDepth 65536 in
theorem w_named : about1.methodNamed? x = some theMethod := by decide +kernel
set_option maxRecDepth 65536 in
theorem w_hears : about1.hears theMethod below0 = true := by decide +kernel
set_option maxRecDepth 65536 in
theorem w_ripe : about1.ripe theMethod args0 below0 = true := by decide +kernel
theorem w_running : about1.status = .running := rfl
set_option maxRecDepth 65536 in
theorem w_room : about1.hasRoom e0.platform room_1 = true :=
  launch0.hasRoom_least _ room_1 (by decide +kernel) (by decide +kernel) (by decide +kernel) (by decide +kernel) (by decide +kernel) (by decide +kernel)
theorem allAtoms_all (ts : List Jvm.Cond) (a : Array Jvm.Value) (st : Jvm.State) : (allAtoms ts).before a st = ts.all (fun c => c.before a st) := by
  induction ts with
  | nil => rfl
  | cons c t ih =>
    show (Jvm.Cond.and c (allAtoms t)).before a st = _
    rw [Jvm.Cond.before_and, ih, List.all_cons]
def words1 : List Jvm.Cond := Jvm.Cond.code x code maxLocals ret :: tables_1
/-- a 'code' word, met by the world's own term for the bytes: nothing is compared byte by byte -/
theorem code_word {y : MethodName} {bytes : ByteArray} {mx : Nat} {rt : Option FieldType} {a : Array Value} {s : State} {m : MethodId} {meth : Method} {c : Code} (h1 : s.methodNamed? y = some m) (h2 : s.vm.method? m = some meth) (h3 : meth.code = some c) (h4 : c.code = bytes)
    (h5 : (c.maxLocals == mx && c.exceptionTable.isEmpty && decide (c.maxStack ≤ mostOperands) && decide (meth.sig.returnType = rt) && !meth.locks && decide (parseMethodDescriptor y.desc = some meth.sig)) = true) : (Jvm.Cond.code y bytes mx rt).before a s = true := by
  simp only [Bool.and_eq_true, beq_iff_eq, Bool.not_eq_true', decide_eq_true_eq] at h5
  obtain ⟨⟨⟨⟨⟨g1, g2⟩, g3⟩, g4⟩, g5⟩, g6⟩ := h5
  simp [Cond.before, Cond.holds, Cond.value, h1, h2, h3, h4, g1, g2, g3, g4, g5, g6]
def isCode : Jvm.Cond → Bool
  | .code _ _ _ _ => true
  | _ => false
theorem all_split {L : List Jvm.Cond} {P : Jvm.Cond → Bool} (h1 : L.all (fun c => isCode c || P c) = true) (h2 : ∀ c ∈ L.filter isCode, P c = true) : L.all P = true := by
  refine List.all_eq_true.mpr fun c hc => ?_
  have h := List.all_eq_true.mp h1 c hc
  rcases Bool.eq_false_or_eq_true (isCode c) with hi | hi
  · exact h2 c (List.mem_filter.mpr ⟨hc, hi⟩)
  · simpa [hi] using h
set_option maxRecDepth 65536 in
theorem w_c0 : (Jvm.Cond.code x code maxLocals ret).before args0 about1 = true := code_word (m := ⟨1, 1⟩) (meth := k1m1) (c := k1c1) (by decide +kernel) rfl rfl rfl (by decide +kernel)
set_option maxRecDepth 65536 in
theorem w_c1 : (Jvm.Cond.code ({ cls := "com/example/nestwire/nestwire/codec/RlpBytes", name := "<init>", desc := "([BII)V" } : Jvm.MethodName) prog_21_method_1_code (4 : Nat) (Option.none : Option Jvm.ClassFile.FieldType)).before args0 about1 = true := code_word (m := ⟨3, 0⟩) (meth := k3m0) (c := k3c0) (by decide +kernel) rfl rfl rfl (by decide +kernel)
set_option maxRecDepth 65536 in
theorem w_c2 : (Jvm.Cond.code ({ cls := "java/lang/Object", name := "<init>", desc := "()V" } : Jvm.MethodName) object_method_1_code (1 : Nat) (Option.none : Option Jvm.ClassFile.FieldType)).before args0 about1 = true := code_word (m := ⟨0, 0⟩) (meth := k0m0) (c := k0c0) (by decide +kernel) rfl rfl rfl (by decide +kernel)
set_option maxRecDepth 65536 in
theorem w_c3 : (Jvm.Cond.code ({ cls := "com/example/nestwire/nestwire/codec/RlpBytes", name := "hashCode", desc := "()I" } : Jvm.MethodName) prog_21_method_14_code (3 : Nat) (Option.some Jvm.ClassFile.FieldType.int)).before args0 about1 = true := code_word (m := ⟨3, 1⟩) (meth := k3m1) (c := k3c1) (by decide +kernel) rfl rfl rfl (by decide +kernel)
def codes1 : List Jvm.Cond := [Jvm.Cond.code x code maxLocals ret, Jvm.Cond.code ({ cls := "com/example/nestwire/nestwire/codec/RlpBytes", name := "<init>", desc := "([BII)V" } : Jvm.MethodName) prog_21_method_1_code (4 : Nat) (Option.none : Option Jvm.ClassFile.FieldType), Jvm.Cond.code ({ cls := "java/lang/Object", name := "<init>", desc := "()V" } : Jvm.MethodName) object_method_1_code (1 : Nat) (Option.none : Option Jvm.ClassFile.FieldType), Jvm.Cond.code ({ cls := "com/example/nestwire/nestwire/codec/RlpBytes", name := "hashCode", desc := "()I" } : Jvm.MethodName) prog_21_method_14_code (3 : Nat) (Option.some Jvm.ClassFile.FieldType.int)]
set_option maxRecDepth 65536 in
theorem codes_eq : words1.filter isCode = codes1 := rfl
theorem w_codes : ∀ c ∈ words1.filter isCode, c.before args0 about1 = true := by
  rw [codes_eq]
  intro c hc
  simp only [codes1, List.mem_cons, List.not_mem_nil, or_false] at hc
  rcases hc with rfl | rfl | rfl | rfl
  · exact w_c0
  · exact w_c1
  · exact w_c2
  · exact w_c3
set_option maxRecDepth 65536 in
theorem w_t1 : words1.all (fun c => isCode c || c.before args0 about1) = true := by decide +kernel
theorem w_tables : (allAtoms (Jvm.Cond.code x code maxLocals ret :: tables_1)).before args0 about1 = true := by
  rw [allAtoms_all]
  show words1.all (fun c => c.before args0 about1) = true
  refine all_split ?_ w_codes
  rw [w_t1]
set_option maxRecDepth 65536 in
theorem w_case : (Jvm.Cond.and given_1 narrow_1).before args0 about1 = true := by decide +kernel
theorem w_applies : (headSpec (Jvm.Cond.code x code maxLocals ret :: tables_1) room_1).applies x e0.platform about1 = true :=
  (Spec.applies_iff w_frames).mpr ⟨w_running, w_runnable, w_alone, w_named, w_hears, w_ripe, w_room, w_tables⟩
theorem atStart : AtStart classFile x code maxLocals ret World_1 tables_1 room_1 Calls_1 rest_1 Pre_1 launch0 p0 e0 about1 theMethod args0 below0 :=
  ⟨lists_1, trivial, launch0.admits_env _ _ _, launch0.least_env, fairChoices_fair.cas, fairChoices_fair.clock, w_frames, w_args, w_heap, w_applies, trivial, trivial, w_case⟩
end start1
theorem witness_1 : WitnessClaimed_1 := ⟨start1.p0, start1.e0, start1.about1, start1.theMethod, start1.args0, start1.below0, start1.atStart⟩
end Jvm.Pilot.@@N@@
