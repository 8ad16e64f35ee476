import JvmDerived
import JvmDerived.Pilot.@@N@@Statement
import JvmDerived.Pilot.@@N@@Code
set_option linter.unusedVariables false
set_option linter.unusedSimpArgs false

namespace Jvm.Pilot.@@N@@
namespace Own
open Jvm Jvm.ClassFile Sem Op Lib Bundle Jvm.Free Jvm.Stand Jvm.LawKit Jvm.RoadKit
section Own
variable {l : Launch} {Z : State} {EL : List (String × Nat)} {y : MethodName} {bytes : ByteArray} {maxL : Nat} {ret : Option FieldType} {R : Room} {B0 : Addr → Prop} {Q : Option Value → Heap → (Addr → Prop) → Prop} {p : Program} {e : Env} {s : State} {m : MethodId} {args : Array Value} {below : List Frame} {meth : Method} {c : Code} {B : Addr → Prop} {T : State} {h h' : Heap} {k n : Nat} {a0 : Array Value} {pc pc' : Nat} {ls ls' : Array Slot} {st : List Value} {a b : Addr} {ws : List Addr} {ty : FieldType} {vs : List Value}
/-! facts on arrays and Strings -/
def Ar (Z : State) (h : Heap) (a : Addr) (ty : FieldType) (vs : List Value) : Prop := ∃ c : Cell, Arr Z h a c ty ∧ c.slots.toList = vs ∧ vs.length < 2 ^ 31 ∧ ∀ v ∈ vs, fits ty v = true
theorem Ar.keep (F : Ar Z h a ty vs) (K : Keep h h' ws) (q : a ∉ ws) : Ar Z h' a ty vs := by
  obtain ⟨c, A, r⟩ := F; exact ⟨c, ⟨K.2.1 a c A.1 q, A.2⟩, r⟩
theorem Ar.lt (F : Ar Z h a ty vs) : a < h.size := by obtain ⟨c, A, -⟩ := F; exact A.lt
theorem Ar.new {kc : ClassId} {z : Int32} (A : Arr Z h a (newA kc ty z) ty) (q : ¬ z < 0) : Ar Z h a ty (List.replicate z.toNatClampNeg (defaultValue ty)) :=
  ⟨_, A, by simp [newA], by simpa using (back32 q).2, fun v hv => by rw [List.eq_of_mem_replicate hv]; cases ty <;> rfl⟩
theorem len32 {n : Nat} (h : n < 2 ^ 31) : ¬ n.toInt32 < 0 ∧ n.toInt32.toNatClampNeg = n ∧ n.toInt32.toInt = n := by
  have e3 : n.toInt32.toInt = n := len_toInt h
  have e0 : (0 : Int32).toInt = 0 := rfl
  refine ⟨by rw [Int32.lt_iff_toInt_lt, e3, e0]; omega, by simp only [Int32.toNatClampNeg, e3]; omega, e3⟩
theorem Ar.toArv {z : Int32} (F : Ar Z h a ty vs) (hz : vs.length.toInt32 = z) (d : Value) : ∃ k, Arv Z h a k ty z vs d := by
  obtain ⟨c, A, e, hl, hf⟩ := F
  subst hz
  obtain ⟨q1, q2, -⟩ := len32 hl
  have e2 : c.slots.size = vs.length := by rw [← e]; simp
  refine ⟨c.cls, c, A, rfl, by rw [e2, q2], q1, fun i hi => ?_, fun i hi => ?_⟩
  · have hi' : i < vs.length := by omega
    rw [← Array.getElem?_toList, e, List.getD_eq_getElem?_getD, List.getElem?_eq_getElem hi']; rfl
  · have hi' : i < vs.length := by omega
    rw [List.getD_eq_getElem?_getD, List.getElem?_eq_getElem hi']; exact hf _ (List.getElem_mem _)
theorem Ar.ofArv {kc : ClassId} {z : Int32} {d : Value} (F : Arv Z h a kc ty z vs d) (hl : z.toNatClampNeg = vs.length) : Ar Z h a ty vs := by
  obtain ⟨c, A, -, S, q, H, G⟩ := F
  have e2 : c.slots.size = vs.length := by rw [S, hl]
  have e3 : c.slots.toList = vs := by
    apply List.ext_getElem?
    intro i
    by_cases hi : i < vs.length
    · rw [Array.getElem?_toList, H i (by omega), List.getD_eq_getElem?_getD, List.getElem?_eq_getElem hi]; rfl
    · rw [List.getElem?_eq_none (by rw [Array.length_toList]; omega), List.getElem?_eq_none (by omega)]
  refine ⟨c, A, e3, by rw [← hl]; exact (back32 q).2, fun v hv => ?_⟩
  obtain ⟨i, hi, rfl⟩ := List.getElem_of_mem hv
  have := G i (by omega)
  rwa [List.getD_eq_getElem?_getD, List.getElem?_eq_getElem hi] at this
theorem Ar.len_lt (F : Ar Z h a ty vs) : vs.length < 2 ^ 31 := by obtain ⟨c, A, e, hl, hf⟩ := F; exact hl
theorem Ar.fit (F : Ar Z h a ty vs) : ∀ v ∈ vs, fits ty v = true := by obtain ⟨c, A, e, hl, hf⟩ := F; exact hf
abbrev ST : String := "java/lang/String"
/-- bytes of Latin-1 chars -/
abbrev by8 (cs : List Int32) : List Value := cs.map fun c => Value.int c.toInt8.toInt32
def Lat (cs : List Int32) : Prop := ∀ c ∈ cs, 0 ≤ c.toInt ∧ c.toInt ≤ 255
/-- a is a String of the Latin-1 chars cs, its bytes in b -/
def Str (Z : State) (h : Heap) (a b : Addr) (cs : List Int32) : Prop := Exa Z h a ST ∧ Fld Z h a ST "coder" "B" (.int 0) ∧ Fld Z h a ST "value" "[B" (.ref b) ∧ Ar Z h b .byte (by8 cs) ∧ Lat cs
theorem Str.keep {cs : List Int32} (F : Str Z h a b cs) (K : Keep h h' ws) (q : a ∉ ws) (q' : b ∉ ws) : Str Z h' a b cs := ⟨F.1.keep K, F.2.1.keep K q, F.2.2.1.keep K q, F.2.2.2.1.keep K q', F.2.2.2.2⟩
theorem Str.exa {cs : List Int32} (F : Str Z h a b cs) : Exa Z h a ST := F.1
theorem Str.cod {cs : List Int32} (F : Str Z h a b cs) : Fld Z h a ST "coder" "B" (.int 0) := F.2.1
theorem Str.val {cs : List Int32} (F : Str Z h a b cs) : Fld Z h a ST "value" "[B" (.ref b) := F.2.2.1
theorem Str.arr {cs : List Int32} (F : Str Z h a b cs) : Ar Z h b .byte (by8 cs) := F.2.2.2.1
theorem Str.lat {cs : List Int32} (F : Str Z h a b cs) : Lat cs := F.2.2.2.2
theorem Str.lt {cs : List Int32} (F : Str Z h a b cs) : a < h.size := F.1.lt
theorem Str.ltb {cs : List Int32} (F : Str Z h a b cs) : b < h.size := F.arr.lt
theorem Str.len_lt {cs : List Int32} (F : Str Z h a b cs) : cs.length < 2 ^ 31 := by simpa using F.arr.len_lt
theorem strc {cs ds : List Int32} (F : Str Z h a b cs) (q : cs = ds) : Str Z h a b ds := q ▸ F
theorem Ar.ext (E : Ext h h') (F : Ar Z h a ty vs) : Ar Z h' a ty vs := by obtain ⟨c, A, r⟩ := F; exact ⟨c, A.ext E, r⟩
theorem Str.ext {cs : List Int32} (E : Ext h h') (F : Str Z h a b cs) : Str Z h' a b cs := ⟨F.1.ext E, F.2.1.ext E, F.2.2.1.ext E, F.2.2.2.1.ext E, F.2.2.2.2⟩
abbrev ASB : String := "java/lang/AbstractStringBuilder"
/-- a is a StringBuilder that holds the Latin-1 chars cs, in the array v of length cap -/
def Sb (Z : State) (h : Heap) (a v : Addr) (cs : List Int32) (cap : Nat) : Prop := Exa Z h a "java/lang/StringBuilder" ∧ Fld Z h a ASB "value" "[B" (.ref v) ∧ Fld Z h a ASB "coder" "B" (.int 0) ∧ Fld Z h a ASB "count" "I" (.int cs.length.toInt32) ∧ Lat cs ∧ cs.length ≤ cap ∧ ∃ vs, Ar Z h v .byte vs ∧ vs.length = cap ∧ vs.take cs.length = by8 cs
theorem Sb.keep {v : Addr} {cs : List Int32} {cap : Nat} (F : Sb Z h a v cs cap) (K : Keep h h' ws) (q : a ∉ ws) (q' : v ∉ ws) : Sb Z h' a v cs cap := by
  obtain ⟨h1, h2, h3, h4, h5, h6, vs, h7, h8⟩ := F
  exact ⟨h1.keep K, h2.keep K q, h3.keep K q, h4.keep K q, h5, h6, vs, h7.keep K q', h8⟩
theorem Sb.exa {v : Addr} {cs : List Int32} {cap : Nat} (F : Sb Z h a v cs cap) : Exa Z h a "java/lang/StringBuilder" := F.1
theorem Sb.val {v : Addr} {cs : List Int32} {cap : Nat} (F : Sb Z h a v cs cap) : Fld Z h a ASB "value" "[B" (.ref v) := F.2.1
theorem Sb.cod {v : Addr} {cs : List Int32} {cap : Nat} (F : Sb Z h a v cs cap) : Fld Z h a ASB "coder" "B" (.int 0) := F.2.2.1
theorem Sb.cnt {v : Addr} {cs : List Int32} {cap : Nat} (F : Sb Z h a v cs cap) : Fld Z h a ASB "count" "I" (.int cs.length.toInt32) := F.2.2.2.1
theorem Sb.lat {v : Addr} {cs : List Int32} {cap : Nat} (F : Sb Z h a v cs cap) : Lat cs := F.2.2.2.2.1
theorem Sb.lt {v : Addr} {cs : List Int32} {cap : Nat} (F : Sb Z h a v cs cap) : a < h.size := F.1.lt
theorem Sb.ltb {v : Addr} {cs : List Int32} {cap : Nat} (F : Sb Z h a v cs cap) : v < h.size := by obtain ⟨h1, h2, h3, h4, h5, h6, vs, h7, h8⟩ := F; exact h7.lt
/-- the array at a takes objects of class C -/
def Tk (Z : State) (h : Heap) (a : Addr) (C : String) : Prop := ∃ (c : Cell) (ty : FieldType), Arr Z h a c ty ∧ Ovr Z c.cls C
theorem Tk.keep {C : String} (F : Tk Z h a C) (K : Keep h h' ws) : Tk Z h' a C := by
  obtain ⟨c, ty, ⟨h1, ⟨s1, k1, s2, comp, s3⟩, h3⟩, O⟩ := F
  obtain ⟨c', q1, q2, q3, q4⟩ := K.2.2 a c h1
  exact ⟨c', ty, ⟨q1, ⟨by rw [q3]; exact s1, k1, by rw [q2]; exact s2, comp, s3⟩, by rw [q3]; exact h3⟩, by rw [q2]; exact O⟩
theorem exa_ne_ar {C : String} {kI : Nat} (E : Exa Z h a C) (wi : (Jvm.Cond.instantiable C kI).before a0 Z = true) (A : Ar Z h b ty vs) : a ≠ b := by obtain ⟨c, A, -⟩ := A; exact ne_arr E wi A
theorem ar_ne {ty' : FieldType} {vs' : List Value} (A : Ar Z h a ty vs) (A' : Ar Z h b ty' vs') (ht : ty ≠ ty') : a ≠ b := fun q => by
  subst q
  obtain ⟨c, ⟨h1, ⟨-, k1, h2, c1, h3⟩, -⟩, -⟩ := A
  obtain ⟨c', ⟨g1, ⟨-, k2, g2, c2, g3⟩, -⟩, -⟩ := A'
  cases h1.symm.trans g1
  cases h2.symm.trans g2
  have := h3.symm.trans g3
  injection this with _ e
  exact ht e
theorem ltb {a b : Nat} (q : Nat.ble (a + 1) b = true) : a < b := Nat.le_of_ble_eq_true q
theorem leb {a b : Nat} (q : Nat.ble a b = true) : a ≤ b := Nat.le_of_ble_eq_true q
/-! where the walk stands -/
def En (Z : State) (B : Addr → Prop) (h : Heap) : Prop := Ext Z.heap h ∧ ∀ x, B x → x < h.size
def Wk (l : Launch) (Z : State) (EL : List (String × Nat)) (y : MethodName) (bytes : ByteArray) (maxL : Nat) (ret : Option FieldType) (R : Room) (B0 : Addr → Prop) (p : Program) (e : Env) (s : State) (m : MethodId) (args : Array Value) (below : List Frame) (meth : Method) (c : Code) (B : Addr → Prop) (T : State) (h : Heap) (k n : Nat) : Prop :=
  (p.tables.exec = Jvm.exec ∧ c.code = bytes ∧ c.maxLocals = maxL ∧ meth.sig.returnType = ret ∧ meth.locks = false ∧ meth.name = y.name ∧ ∃ a1, EW Z a1 EL) ∧
  En Z B h ∧ s.heap.size ≤ h.size ∧ (∀ x, B x → B0 x ∨ s.heap.size ≤ x) ∧
  ∃ (V : Vm) (locs : List Loc) (q : Nat), Stand p l e R (s.setVm V) m args below meth c T locs k n ∧ T.heap = h ∧ Z.Warmed39 V ∧ V.findClass y.cls = some m.cls ∧ s.Since V q ∧ q ≤ h.size ∧ Fr Z.heap.size locs ∧ CHv Z EL V h ∧ (∀ x, Bk Z EL V h x → B x)
def Go (l : Launch) (Z : State) (EL : List (String × Nat)) (R : Room) (B0 : Addr → Prop) (Q : Option Value → Heap → (Addr → Prop) → Prop) (p : Program) (e : Env) (s : State) (m : MethodId) (below : List Frame) (T : State) (pc : Nat) (ls : Array Slot) (st : List Value) : Prop :=
  ∃ s₂ o, Steps p.tables e below (T.setTop (mkF m pc ls st)) s₂ ∧ s₂.status = .running ∧ Ended s₂ below o ∧ ∃ v L B', o = .returned v ∧ Fr Z.heap.size L ∧ CHv Z EL s₂.vm s₂.heap ∧ (∀ x, Bk Z EL s₂.vm s₂.heap x → B' x) ∧ (∀ x, B' x → B0 x ∨ s.heap.size ≤ x) ∧ En Z B' s₂.heap ∧ s.heap.size ≤ s₂.heap.size ∧ Q v s₂.heap B' ∧ ReturnedEndW s o s₂ L R.cells R.slots
def Con (l : Launch) (Z : State) (EL : List (String × Nat)) (wl : List Jvm.Cond) (y : MethodName) (bytes : ByteArray) (maxL : Nat) (ret : Option FieldType) (rm : Room) (B : Addr → Prop) (h : Heap) (as' : Array Value) (Q : Option Value → Heap → (Addr → Prop) → Prop) : Prop :=
  MetFree l y (head1 (Jvm.Cond.code y bytes maxL ret :: wl) rm) (fun a U => a = as' ∧ Z.Warmed39 U.vm ∧ U.heap = h ∧ CHv Z EL U.vm h ∧ ∀ x, Bk Z EL U.vm h x → B x) (fun _ _ _ _ _ => True)
    (fun _ U o U' => ∃ v L B', o = .returned v ∧ Fr Z.heap.size L ∧ CHv Z EL U'.vm U'.heap ∧ (∀ x, Bk Z EL U'.vm U'.heap x → B' x) ∧ (∀ x, B' x → B x ∨ h.size ≤ x) ∧ En Z B' U'.heap ∧ h.size ≤ U'.heap.size ∧ Q v U'.heap B' ∧ ReturnedEndW U o U' L rm.cells rm.slots)
theorem Wk.hx (X : Wk l Z EL y bytes maxL ret R B0 p e s m args below meth c B T h k n) : p.tables.exec = Jvm.exec := X.1.1
theorem Wk.dec (X : Wk l Z EL y bytes maxL ret R B0 p e s m args below meth c B T h k n) {r : Except DecodeError (Instr × Nat)} (hd : decode bytes pc = r) : decode c.code pc = r := X.1.2.1 ▸ hd
theorem Wk.en (X : Wk l Z EL y bytes maxL ret R B0 p e s m args below meth c B T h k n) : En Z B h := X.2.1
theorem Wk.old (X : Wk l Z EL y bytes maxL ret R B0 p e s m args below meth c B T h k n) : Ext Z.heap h := X.2.1.1
theorem Wk.z0 (X : Wk l Z EL y bytes maxL ret R B0 p e s m args below meth c B T h k n) : Z.heap.size ≤ h.size := X.2.1.1.1
theorem Wk.zs (X : Wk l Z EL y bytes maxL ret R B0 p e s m args below meth c B T h k n) : s.heap.size ≤ h.size := X.2.2.1
theorem Wk.nb (X : Wk l Z EL y bytes maxL ret R B0 p e s m args below meth c B T h k n) (q : h.size ≤ a) : ¬ B a := fun r => absurd (X.2.1.2 a r) (Nat.not_lt.mpr q)
theorem Wk.here (X : Wk l Z EL y bytes maxL ret R B0 p e s m args below meth c B T h k n) : At T m c below := by obtain ⟨-, -, -, -, V, locs, q, X1, -⟩ := X; exact X1.here
theorem Wk.mono (X : Wk l Z EL y bytes maxL ret R B0 p e s m args below meth c B T h k n) {k' n' : Nat} (q : k ≤ k') (r : n ≤ n') : Wk l Z EL y bytes maxL ret R B0 p e s m args below meth c B T h k' n' := by
  obtain ⟨i, hE, hz, hB, V, locs, q0, X1, rest⟩ := X; exact ⟨i, hE, hz, hB, V, locs, q0, X1.mono q r, rest⟩
theorem Go.step {T' : State} {st' : List Value} (hst : ∀ t, Steps p.tables e below (T'.setTop (mkF m pc' ls' st')) t → Steps p.tables e below (T.setTop (mkF m pc ls st)) t) (g : Go l Z EL R B0 Q p e s m below T' pc' ls' st') : Go l Z EL R B0 Q p e s m below T pc ls st := by
  obtain ⟨s₂, o, h1, r⟩ := g
  exact ⟨s₂, o, hst _ h1, r⟩
theorem Go.via {T' : State} {st' : List Value} (hst : Steps p.tables e below (T.setTop (mkF m pc ls st)) (T'.setTop (mkF m pc' ls' st'))) (g : Go l Z EL R B0 Q p e s m below T' pc' ls' st') : Go l Z EL R B0 Q p e s m below T pc ls st := Go.step (fun _ r => hst.trans r) g
theorem gh (e1 : Go l Z EL R B0 Q p e s m below T pc ls st) (e2 : st = vs) : Go l Z EL R B0 Q p e s m below T pc ls vs := e2 ▸ e1

theorem W.iload (X : Wk l Z EL y bytes maxL ret R B0 p e s m args below meth c B T h k n) {j : Nat} {v : Int32} (hd : decode bytes pc = .ok (.iload j, 2)) (hl : ls[j]? = some (.val (.int v))) (hp : pc + 2 = pc') (g : Go l Z EL R B0 Q p e s m below T pc' ls (.int v :: st)) : Go l Z EL R B0 Q p e s m below T pc ls st := by
  subst hp; exact Go.step (fun t hr => XS.iload X.here X.hx rfl (X.dec hd) hl hr) g
theorem W.iloadN (X : Wk l Z EL y bytes maxL ret R B0 p e s m args below meth c B T h k n) {j : Fin 4} {v : Int32} (hd : decode bytes pc = .ok (.iload_n j, 1)) (hl : ls[j.val]? = some (.val (.int v))) (hp : pc + 1 = pc') (g : Go l Z EL R B0 Q p e s m below T pc' ls (.int v :: st)) : Go l Z EL R B0 Q p e s m below T pc ls st := by
  subst hp; exact Go.step (fun t hr => XS.iloadN X.here X.hx rfl (X.dec hd) hl hr) g
theorem W.istore (X : Wk l Z EL y bytes maxL ret R B0 p e s m args below meth c B T h k n) {j : Nat} {v : Int32} (hd : decode bytes pc = .ok (.istore j, 2)) (hl : storeLocals ls j (.int v) = some ls') (hp : pc + 2 = pc') (g : Go l Z EL R B0 Q p e s m below T pc' ls' st) : Go l Z EL R B0 Q p e s m below T pc ls (.int v :: st) := by
  subst hp; exact Go.step (fun t hr => XS.istore X.here X.hx rfl (X.dec hd) rfl hl hr) g
theorem W.istoreN (X : Wk l Z EL y bytes maxL ret R B0 p e s m args below meth c B T h k n) {j : Fin 4} {v : Int32} (hd : decode bytes pc = .ok (.istore_n j, 1)) (hl : storeLocals ls j.val (.int v) = some ls') (hp : pc + 1 = pc') (g : Go l Z EL R B0 Q p e s m below T pc' ls' st) : Go l Z EL R B0 Q p e s m below T pc ls (.int v :: st) := by
  subst hp; exact Go.step (fun t hr => XS.istoreN X.here X.hx rfl (X.dec hd) rfl hl hr) g
theorem W.lload (X : Wk l Z EL y bytes maxL ret R B0 p e s m args below meth c B T h k n) {j : Nat} {v : Int64} (hd : decode bytes pc = .ok (.lload j, 2)) (hl : ls[j]? = some (.val (.long v))) (hp : pc + 2 = pc') (g : Go l Z EL R B0 Q p e s m below T pc' ls (.long v :: st)) : Go l Z EL R B0 Q p e s m below T pc ls st := by
  subst hp; exact Go.step (fun t hr => XT.lload X.here X.hx rfl (X.dec hd) hl hr) g
theorem W.lloadN (X : Wk l Z EL y bytes maxL ret R B0 p e s m args below meth c B T h k n) {j : Fin 4} {v : Int64} (hd : decode bytes pc = .ok (.lload_n j, 1)) (hl : ls[j.val]? = some (.val (.long v))) (hp : pc + 1 = pc') (g : Go l Z EL R B0 Q p e s m below T pc' ls (.long v :: st)) : Go l Z EL R B0 Q p e s m below T pc ls st := by
  subst hp; exact Go.step (fun t hr => XT.lloadN X.here X.hx rfl (X.dec hd) hl hr) g
theorem W.lstore (X : Wk l Z EL y bytes maxL ret R B0 p e s m args below meth c B T h k n) {j : Nat} {v : Int64} (hd : decode bytes pc = .ok (.lstore j, 2)) (hl : storeLocals ls j (.long v) = some ls') (hp : pc + 2 = pc') (g : Go l Z EL R B0 Q p e s m below T pc' ls' st) : Go l Z EL R B0 Q p e s m below T pc ls (.long v :: st) := by
  subst hp; exact Go.step (fun t hr => XT.lstore X.here X.hx rfl (X.dec hd) rfl hl hr) g
theorem W.lstoreN (X : Wk l Z EL y bytes maxL ret R B0 p e s m args below meth c B T h k n) {j : Fin 4} {v : Int64} (hd : decode bytes pc = .ok (.lstore_n j, 1)) (hl : storeLocals ls j.val (.long v) = some ls') (hp : pc + 1 = pc') (g : Go l Z EL R B0 Q p e s m below T pc' ls' st) : Go l Z EL R B0 Q p e s m below T pc ls (.long v :: st) := by
  subst hp; exact Go.step (fun t hr => XT.lstoreN X.here X.hx rfl (X.dec hd) rfl hl hr) g
theorem W.aload (X : Wk l Z EL y bytes maxL ret R B0 p e s m args below meth c B T h k n) {j : Nat} {v : Value} (hd : decode bytes pc = .ok (.aload j, 2)) (hl : ls[j]? = some (.val v)) (hv : v.isRef = true) (hp : pc + 2 = pc') (g : Go l Z EL R B0 Q p e s m below T pc' ls (v :: st)) : Go l Z EL R B0 Q p e s m below T pc ls st := by
  subst hp; exact Go.step (fun t hr => XS.aload X.here X.hx rfl (X.dec hd) hl hv hr) g
theorem W.aloadN (X : Wk l Z EL y bytes maxL ret R B0 p e s m args below meth c B T h k n) {j : Fin 4} {v : Value} (hd : decode bytes pc = .ok (.aload_n j, 1)) (hl : ls[j.val]? = some (.val v)) (hv : v.isRef = true) (hp : pc + 1 = pc') (g : Go l Z EL R B0 Q p e s m below T pc' ls (v :: st)) : Go l Z EL R B0 Q p e s m below T pc ls st := by
  subst hp; exact Go.step (fun t hr => XS.aloadN X.here X.hx rfl (X.dec hd) hl hv hr) g
theorem W.astore (X : Wk l Z EL y bytes maxL ret R B0 p e s m args below meth c B T h k n) {j : Nat} {v : Value} (hd : decode bytes pc = .ok (.astore j, 2)) (hv : v.isRef = true) (hl : storeLocals ls j v = some ls') (hp : pc + 2 = pc') (g : Go l Z EL R B0 Q p e s m below T pc' ls' st) : Go l Z EL R B0 Q p e s m below T pc ls (v :: st) := by
  subst hp; exact Go.step (fun t hr => XS.astore X.here X.hx rfl (X.dec hd) rfl hv hl hr) g
theorem W.astoreN (X : Wk l Z EL y bytes maxL ret R B0 p e s m args below meth c B T h k n) {j : Fin 4} {v : Value} (hd : decode bytes pc = .ok (.astore_n j, 1)) (hv : v.isRef = true) (hl : storeLocals ls j.val v = some ls') (hp : pc + 1 = pc') (g : Go l Z EL R B0 Q p e s m below T pc' ls' st) : Go l Z EL R B0 Q p e s m below T pc ls (v :: st) := by
  subst hp; exact Go.step (fun t hr => XS.astoreN X.here X.hx rfl (X.dec hd) rfl hv hl hr) g
theorem W.iconst (X : Wk l Z EL y bytes maxL ret R B0 p e s m args below meth c B T h k n) {i : Int} (v : Int32) (hd : decode bytes pc = .ok (.iconst i, 1)) (hv : Int32.ofInt i = v) (hp : pc + 1 = pc') (g : Go l Z EL R B0 Q p e s m below T pc' ls (.int v :: st)) : Go l Z EL R B0 Q p e s m below T pc ls st := by
  subst hp; exact Go.step (fun t hr => XT.iconstV X.here X.hx rfl v (X.dec hd) hv hr) g
theorem W.bipush (X : Wk l Z EL y bytes maxL ret R B0 p e s m args below meth c B T h k n) {i : Int} (v : Int32) (hd : decode bytes pc = .ok (.bipush i, 2)) (hv : (Int8.ofInt i).toInt32 = v) (hp : pc + 2 = pc') (g : Go l Z EL R B0 Q p e s m below T pc' ls (.int v :: st)) : Go l Z EL R B0 Q p e s m below T pc ls st := by
  subst hp; exact Go.step (fun t hr => XT.bipushV X.here X.hx rfl v (X.dec hd) hv hr) g
theorem W.sipush (X : Wk l Z EL y bytes maxL ret R B0 p e s m args below meth c B T h k n) {i : Int} (v : Int32) (hd : decode bytes pc = .ok (.sipush i, 3)) (hv : (Int16.ofInt i).toInt32 = v) (hp : pc + 3 = pc') (g : Go l Z EL R B0 Q p e s m below T pc' ls (.int v :: st)) : Go l Z EL R B0 Q p e s m below T pc ls st := by
  subst hp; exact Go.step (fun t hr => XT.sipushV X.here X.hx rfl v (X.dec hd) hv hr) g
theorem W.lconst (X : Wk l Z EL y bytes maxL ret R B0 p e s m args below meth c B T h k n) {i : Fin 2} (v : Int64) (hd : decode bytes pc = .ok (.lconst i, 1)) (hv : Int64.ofNat i = v) (hp : pc + 1 = pc') (g : Go l Z EL R B0 Q p e s m below T pc' ls (.long v :: st)) : Go l Z EL R B0 Q p e s m below T pc ls st := by
  subst hp; exact Go.step (fun t hr => XT.lconstV X.here X.hx rfl v (X.dec hd) hv hr) g
theorem W.aconst_null (X : Wk l Z EL y bytes maxL ret R B0 p e s m args below meth c B T h k n)  (hd : decode bytes pc = .ok (.aconst_null, 1))  (hp : pc + 1 = pc') (g : Go l Z EL R B0 Q p e s m below T pc' ls (.null :: st)) : Go l Z EL R B0 Q p e s m below T pc ls st := by
  subst hp; exact Go.step (fun t hr => XS.aconstNull X.here X.hx rfl (X.dec hd) hr) g
theorem W.iadd (X : Wk l Z EL y bytes maxL ret R B0 p e s m args below meth c B T h k n) {x z : Int32} {w : Int32} (hd : decode bytes pc = .ok (.iadd, 1)) (hw : x + z = w) (hp : pc + 1 = pc') (g : Go l Z EL R B0 Q p e s m below T pc' ls (.int w :: st)) : Go l Z EL R B0 Q p e s m below T pc ls (.int z :: .int x :: st) := by
  subst hp; exact Go.step (fun t hr => by subst hw; exact XS.iadd X.here X.hx rfl (X.dec hd) rfl hr) g
theorem W.isub (X : Wk l Z EL y bytes maxL ret R B0 p e s m args below meth c B T h k n) {x z : Int32} {w : Int32} (hd : decode bytes pc = .ok (.isub, 1)) (hw : x - z = w) (hp : pc + 1 = pc') (g : Go l Z EL R B0 Q p e s m below T pc' ls (.int w :: st)) : Go l Z EL R B0 Q p e s m below T pc ls (.int z :: .int x :: st) := by
  subst hp; exact Go.step (fun t hr => by subst hw; exact XS.isub X.here X.hx rfl (X.dec hd) rfl hr) g
theorem W.iand (X : Wk l Z EL y bytes maxL ret R B0 p e s m args below meth c B T h k n) {x z : Int32} {w : Int32} (hd : decode bytes pc = .ok (.iand, 1)) (hw : x &&& z = w) (hp : pc + 1 = pc') (g : Go l Z EL R B0 Q p e s m below T pc' ls (.int w :: st)) : Go l Z EL R B0 Q p e s m below T pc ls (.int z :: .int x :: st) := by
  subst hp; exact Go.step (fun t hr => by subst hw; exact XS.iand X.here X.hx rfl (X.dec hd) rfl hr) g
theorem W.imul (X : Wk l Z EL y bytes maxL ret R B0 p e s m args below meth c B T h k n) {x z : Int32} {w : Int32} (hd : decode bytes pc = .ok (.imul, 1)) (hw : x * z = w) (hp : pc + 1 = pc') (g : Go l Z EL R B0 Q p e s m below T pc' ls (.int w :: st)) : Go l Z EL R B0 Q p e s m below T pc ls (.int z :: .int x :: st) := by
  subst hp; exact Go.step (fun t hr => by subst hw; exact XS.imul X.here X.hx rfl (X.dec hd) rfl hr) g
theorem W.ixor (X : Wk l Z EL y bytes maxL ret R B0 p e s m args below meth c B T h k n) {x z : Int32} {w : Int32} (hd : decode bytes pc = .ok (.ixor, 1)) (hw : x ^^^ z = w) (hp : pc + 1 = pc') (g : Go l Z EL R B0 Q p e s m below T pc' ls (.int w :: st)) : Go l Z EL R B0 Q p e s m below T pc ls (.int z :: .int x :: st) := by
  subst hp; exact Go.step (fun t hr => by subst hw; exact XT.ixor X.here X.hx rfl (X.dec hd) rfl hr) g
theorem W.ior (X : Wk l Z EL y bytes maxL ret R B0 p e s m args below meth c B T h k n) {x z : Int32} {w : Int32} (hd : decode bytes pc = .ok (.ior, 1)) (hw : x ||| z = w) (hp : pc + 1 = pc') (g : Go l Z EL R B0 Q p e s m below T pc' ls (.int w :: st)) : Go l Z EL R B0 Q p e s m below T pc ls (.int z :: .int x :: st) := by
  subst hp; exact Go.step (fun t hr => by subst hw; exact XT.ior X.here X.hx rfl (X.dec hd) rfl hr) g
theorem W.ishl (X : Wk l Z EL y bytes maxL ret R B0 p e s m args below meth c B T h k n) {x z : Int32} {w : Int32} (hd : decode bytes pc = .ok (.ishl, 1)) (hw : x <<< (z &&& 31) = w) (hp : pc + 1 = pc') (g : Go l Z EL R B0 Q p e s m below T pc' ls (.int w :: st)) : Go l Z EL R B0 Q p e s m below T pc ls (.int z :: .int x :: st) := by
  subst hp; exact Go.step (fun t hr => by subst hw; exact XT.ishl X.here X.hx rfl (X.dec hd) rfl hr) g
theorem W.ishr (X : Wk l Z EL y bytes maxL ret R B0 p e s m args below meth c B T h k n) {x z : Int32} {w : Int32} (hd : decode bytes pc = .ok (.ishr, 1)) (hw : x >>> (z &&& 31) = w) (hp : pc + 1 = pc') (g : Go l Z EL R B0 Q p e s m below T pc' ls (.int w :: st)) : Go l Z EL R B0 Q p e s m below T pc ls (.int z :: .int x :: st) := by
  subst hp; exact Go.step (fun t hr => by subst hw; exact XT.ishr X.here X.hx rfl (X.dec hd) rfl hr) g
theorem W.iushr (X : Wk l Z EL y bytes maxL ret R B0 p e s m args below meth c B T h k n) {x z : Int32} {w : Int32} (hd : decode bytes pc = .ok (.iushr, 1)) (hw : XT.ushr x z = w) (hp : pc + 1 = pc') (g : Go l Z EL R B0 Q p e s m below T pc' ls (.int w :: st)) : Go l Z EL R B0 Q p e s m below T pc ls (.int z :: .int x :: st) := by
  subst hp; exact Go.step (fun t hr => by subst hw; exact XT.iushr X.here X.hx rfl (X.dec hd) rfl hr) g
theorem W.idiv (X : Wk l Z EL y bytes maxL ret R B0 p e s m args below meth c B T h k n) {x z : Int32} {w : Int32} (hd : decode bytes pc = .ok (.idiv, 1)) (hz : z ≠ 0) (hw : x / z = w) (hp : pc + 1 = pc') (g : Go l Z EL R B0 Q p e s m below T pc' ls (.int w :: st)) : Go l Z EL R B0 Q p e s m below T pc ls (.int z :: .int x :: st) := by
  subst hp; exact Go.step (fun t hr => by subst hw; exact XS.idiv X.here X.hx rfl (X.dec hd) rfl hz hr) g
theorem W.irem (X : Wk l Z EL y bytes maxL ret R B0 p e s m args below meth c B T h k n) {x z : Int32} {w : Int32} (hd : decode bytes pc = .ok (.irem, 1)) (hz : z ≠ 0) (hw : x % z = w) (hp : pc + 1 = pc') (g : Go l Z EL R B0 Q p e s m below T pc' ls (.int w :: st)) : Go l Z EL R B0 Q p e s m below T pc ls (.int z :: .int x :: st) := by
  subst hp; exact Go.step (fun t hr => by subst hw; exact XS.irem X.here X.hx rfl (X.dec hd) rfl hz (by rw [Jvm.irem_eq_mod]; exact hr)) g
theorem W.ineg (X : Wk l Z EL y bytes maxL ret R B0 p e s m args below meth c B T h k n) {x : Int32} {w : Int32} (hd : decode bytes pc = .ok (.ineg, 1)) (hw : -x = w) (hp : pc + 1 = pc') (g : Go l Z EL R B0 Q p e s m below T pc' ls (.int w :: st)) : Go l Z EL R B0 Q p e s m below T pc ls (.int x :: st) := by
  subst hp; exact Go.step (fun t hr => by subst hw; exact XS.ineg X.here X.hx rfl (X.dec hd) rfl hr) g
theorem W.ladd (X : Wk l Z EL y bytes maxL ret R B0 p e s m args below meth c B T h k n) {x z : Int64} {w : Int64} (hd : decode bytes pc = .ok (.ladd, 1)) (hw : x + z = w) (hp : pc + 1 = pc') (g : Go l Z EL R B0 Q p e s m below T pc' ls (.long w :: st)) : Go l Z EL R B0 Q p e s m below T pc ls (.long z :: .long x :: st) := by
  subst hp; exact Go.step (fun t hr => by subst hw; exact XT.ladd X.here X.hx rfl (X.dec hd) rfl hr) g
theorem W.lsub (X : Wk l Z EL y bytes maxL ret R B0 p e s m args below meth c B T h k n) {x z : Int64} {w : Int64} (hd : decode bytes pc = .ok (.lsub, 1)) (hw : x - z = w) (hp : pc + 1 = pc') (g : Go l Z EL R B0 Q p e s m below T pc' ls (.long w :: st)) : Go l Z EL R B0 Q p e s m below T pc ls (.long z :: .long x :: st) := by
  subst hp; exact Go.step (fun t hr => by subst hw; exact XT.lsub X.here X.hx rfl (X.dec hd) rfl hr) g
theorem W.land (X : Wk l Z EL y bytes maxL ret R B0 p e s m args below meth c B T h k n) {x z : Int64} {w : Int64} (hd : decode bytes pc = .ok (.land, 1)) (hw : x &&& z = w) (hp : pc + 1 = pc') (g : Go l Z EL R B0 Q p e s m below T pc' ls (.long w :: st)) : Go l Z EL R B0 Q p e s m below T pc ls (.long z :: .long x :: st) := by
  subst hp; exact Go.step (fun t hr => by subst hw; exact XT.land X.here X.hx rfl (X.dec hd) rfl hr) g
theorem W.lmul (X : Wk l Z EL y bytes maxL ret R B0 p e s m args below meth c B T h k n) {x z : Int64} {w : Int64} (hd : decode bytes pc = .ok (.lmul, 1)) (hw : x * z = w) (hp : pc + 1 = pc') (g : Go l Z EL R B0 Q p e s m below T pc' ls (.long w :: st)) : Go l Z EL R B0 Q p e s m below T pc ls (.long z :: .long x :: st) := by
  subst hp; exact Go.step (fun t hr => by subst hw; exact XT.lmul X.here X.hx rfl (X.dec hd) rfl hr) g
theorem W.lor (X : Wk l Z EL y bytes maxL ret R B0 p e s m args below meth c B T h k n) {x z : Int64} {w : Int64} (hd : decode bytes pc = .ok (.lor, 1)) (hw : x ||| z = w) (hp : pc + 1 = pc') (g : Go l Z EL R B0 Q p e s m below T pc' ls (.long w :: st)) : Go l Z EL R B0 Q p e s m below T pc ls (.long z :: .long x :: st) := by
  subst hp; exact Go.step (fun t hr => by subst hw; exact XT.lor X.here X.hx rfl (X.dec hd) rfl hr) g
theorem W.ldiv (X : Wk l Z EL y bytes maxL ret R B0 p e s m args below meth c B T h k n) {x z : Int64} {w : Int64} (hd : decode bytes pc = .ok (.ldiv, 1)) (hz : z ≠ 0) (hw : x / z = w) (hp : pc + 1 = pc') (g : Go l Z EL R B0 Q p e s m below T pc' ls (.long w :: st)) : Go l Z EL R B0 Q p e s m below T pc ls (.long z :: .long x :: st) := by
  subst hp; exact Go.step (fun t hr => by subst hw; exact XT.ldiv X.here X.hx rfl (X.dec hd) rfl hz hr) g
theorem W.lrem (X : Wk l Z EL y bytes maxL ret R B0 p e s m args below meth c B T h k n) {x z : Int64} {w : Int64} (hd : decode bytes pc = .ok (.lrem, 1)) (hz : z ≠ 0) (hw : x - (x / z) * z = w) (hp : pc + 1 = pc') (g : Go l Z EL R B0 Q p e s m below T pc' ls (.long w :: st)) : Go l Z EL R B0 Q p e s m below T pc ls (.long z :: .long x :: st) := by
  subst hp; exact Go.step (fun t hr => by subst hw; exact XT.lrem X.here X.hx rfl (X.dec hd) rfl hz hr) g
theorem W.lneg (X : Wk l Z EL y bytes maxL ret R B0 p e s m args below meth c B T h k n) {x : Int64} {w : Int64} (hd : decode bytes pc = .ok (.lneg, 1)) (hw : -x = w) (hp : pc + 1 = pc') (g : Go l Z EL R B0 Q p e s m below T pc' ls (.long w :: st)) : Go l Z EL R B0 Q p e s m below T pc ls (.long x :: st) := by
  subst hp; exact Go.step (fun t hr => by subst hw; exact XT.lneg X.here X.hx rfl (X.dec hd) rfl hr) g
theorem W.lushr (X : Wk l Z EL y bytes maxL ret R B0 p e s m args below meth c B T h k n) {x : Int64} {z : Int32} {w : Int64} (hd : decode bytes pc = .ok (.lushr, 1)) (hw : XT.ushrL x z = w) (hp : pc + 1 = pc') (g : Go l Z EL R B0 Q p e s m below T pc' ls (.long w :: st)) : Go l Z EL R B0 Q p e s m below T pc ls (.int z :: .long x :: st) := by
  subst hp; exact Go.step (fun t hr => by subst hw; exact XT.lushr X.here X.hx rfl (X.dec hd) rfl hr) g
theorem W.lcmp (X : Wk l Z EL y bytes maxL ret R B0 p e s m args below meth c B T h k n) {x z : Int64} {w : Int32} (hd : decode bytes pc = .ok (.lcmp, 1)) (hw : XT.cmpL x z = w) (hp : pc + 1 = pc') (g : Go l Z EL R B0 Q p e s m below T pc' ls (.int w :: st)) : Go l Z EL R B0 Q p e s m below T pc ls (.long z :: .long x :: st) := by
  subst hp; exact Go.step (fun t hr => by subst hw; exact XT.lcmp X.here X.hx rfl (X.dec hd) rfl hr) g
theorem W.i2l (X : Wk l Z EL y bytes maxL ret R B0 p e s m args below meth c B T h k n) {x : Int32} {w : Int64} (hd : decode bytes pc = .ok (.i2l, 1)) (hw : x.toInt64 = w) (hp : pc + 1 = pc') (g : Go l Z EL R B0 Q p e s m below T pc' ls (.long w :: st)) : Go l Z EL R B0 Q p e s m below T pc ls (.int x :: st) := by
  subst hp; exact Go.step (fun t hr => by subst hw; exact XT.i2l X.here X.hx rfl (X.dec hd) rfl hr) g
theorem W.l2i (X : Wk l Z EL y bytes maxL ret R B0 p e s m args below meth c B T h k n) {x : Int64} {w : Int32} (hd : decode bytes pc = .ok (.l2i, 1)) (hw : x.toInt32 = w) (hp : pc + 1 = pc') (g : Go l Z EL R B0 Q p e s m below T pc' ls (.int w :: st)) : Go l Z EL R B0 Q p e s m below T pc ls (.long x :: st) := by
  subst hp; exact Go.step (fun t hr => by subst hw; exact XT.l2i X.here X.hx rfl (X.dec hd) rfl hr) g
theorem W.i2b (X : Wk l Z EL y bytes maxL ret R B0 p e s m args below meth c B T h k n) {x : Int32} {w : Int32} (hd : decode bytes pc = .ok (.i2b, 1)) (hw : x.toInt8.toInt32 = w) (hp : pc + 1 = pc') (g : Go l Z EL R B0 Q p e s m below T pc' ls (.int w :: st)) : Go l Z EL R B0 Q p e s m below T pc ls (.int x :: st) := by
  subst hp; exact Go.step (fun t hr => by subst hw; exact XT.i2b X.here X.hx rfl (X.dec hd) rfl hr) g
theorem W.i2c (X : Wk l Z EL y bytes maxL ret R B0 p e s m args below meth c B T h k n) {x : Int32} {w : Int32} (hd : decode bytes pc = .ok (.i2c, 1)) (hw : x.toUInt32.toUInt16.toUInt32.toInt32 = w) (hp : pc + 1 = pc') (g : Go l Z EL R B0 Q p e s m below T pc' ls (.int w :: st)) : Go l Z EL R B0 Q p e s m below T pc ls (.int x :: st) := by
  subst hp; exact Go.step (fun t hr => by subst hw; exact XT.i2c X.here X.hx rfl (X.dec hd) rfl hr) g
theorem W.iinc (X : Wk l Z EL y bytes maxL ret R B0 p e s m args below meth c B T h k n) {j : Nat} {cst : Int} {x : Int32} (v : Int32) {w : Int32} (hd : decode bytes pc = .ok (.iinc j cst, 3)) (hv : Int32.ofInt cst = v) (hl : ls[j]? = some (.val (.int x))) (hw : x + v = w) (hl' : storeLocals ls j (.int w) = some ls') (hp : pc + 3 = pc') (g : Go l Z EL R B0 Q p e s m below T pc' ls' st) : Go l Z EL R B0 Q p e s m below T pc ls st := by
  subst hp; exact Go.step (fun t hr => by subst hw; exact XT.iincV X.here X.hx rfl v (X.dec hd) hv hl hl' hr) g
theorem W.popV (X : Wk l Z EL y bytes maxL ret R B0 p e s m args below meth c B T h k n) {v : Value} (hd : decode bytes pc = .ok (.pop, 1)) (hc : v.category = 1) (hp : pc + 1 = pc') (g : Go l Z EL R B0 Q p e s m below T pc' ls st) : Go l Z EL R B0 Q p e s m below T pc ls (v :: st) := by
  subst hp; exact Go.step (fun t hr => XT.pop X.here X.hx rfl (X.dec hd) rfl hc hr) g
theorem W.dup (X : Wk l Z EL y bytes maxL ret R B0 p e s m args below meth c B T h k n) {v : Value} (hd : decode bytes pc = .ok (.dup, 1)) (hc : v.category = 1) (hp : pc + 1 = pc') (g : Go l Z EL R B0 Q p e s m below T pc' ls (v :: v :: st)) : Go l Z EL R B0 Q p e s m below T pc ls (v :: st) := by
  subst hp; exact Go.step (fun t hr => XS.dup X.here X.hx rfl (X.dec hd) rfl hc hr) g
theorem W.dup_x1 (X : Wk l Z EL y bytes maxL ret R B0 p e s m args below meth c B T h k n) {v w : Value} (hd : decode bytes pc = .ok (.dup_x1, 1)) (hc : v.category = 1) (hc' : w.category = 1) (hp : pc + 1 = pc') (g : Go l Z EL R B0 Q p e s m below T pc' ls (v :: w :: v :: st)) : Go l Z EL R B0 Q p e s m below T pc ls (v :: w :: st) := by
  subst hp; exact Go.step (fun t hr => XT.dupX1 X.here X.hx rfl (X.dec hd) rfl hc hc' hr) g
theorem W.dup2 (X : Wk l Z EL y bytes maxL ret R B0 p e s m args below meth c B T h k n) {v w : Value} (hd : decode bytes pc = .ok (.dup2, 1)) (hc : v.category = 1) (hc' : w.category = 1) (hp : pc + 1 = pc') (g : Go l Z EL R B0 Q p e s m below T pc' ls (v :: w :: v :: w :: st)) : Go l Z EL R B0 Q p e s m below T pc ls (v :: w :: st) := by
  subst hp; exact Go.step (fun t hr => XT.dup2 X.here X.hx rfl (X.dec hd) rfl hc hc' hr) g
theorem W.dup2L (X : Wk l Z EL y bytes maxL ret R B0 p e s m args below meth c B T h k n) {v : Int64} (hd : decode bytes pc = .ok (.dup2, 1))  (hp : pc + 1 = pc') (g : Go l Z EL R B0 Q p e s m below T pc' ls (.long v :: .long v :: st)) : Go l Z EL R B0 Q p e s m below T pc ls (.long v :: st) := by
  subst hp; exact Go.step (fun t hr => XT.dup2L X.here X.hx rfl (X.dec hd) rfl hr) g
theorem W.goto (X : Wk l Z EL y bytes maxL ret R B0 p e s m args below meth c B T h k n)  {o : Int} (hd : decode bytes pc = .ok (.goto o, 3))  (ho : 0 ≤ (pc : Int) + o) (hp : ((pc : Int) + o).toNat = pc') (g : Go l Z EL R B0 Q p e s m below T pc' ls st) : Go l Z EL R B0 Q p e s m below T pc ls st :=
  Go.step (fun t hr => XS.goto X.here X.hx rfl rfl (X.dec hd) ho hp hr) g
theorem W.ifT (X : Wk l Z EL y bytes maxL ret R B0 p e s m args below meth c B T h k n) {cd : ClassFile.Cond} {x : Int32} {o : Int} (hd : decode bytes pc = .ok (.ifCond cd o, 3)) (hc : ifCond.holds cd x = true) (ho : 0 ≤ (pc : Int) + o) (hp : ((pc : Int) + o).toNat = pc') (g : Go l Z EL R B0 Q p e s m below T pc' ls st) : Go l Z EL R B0 Q p e s m below T pc ls (.int x :: st) :=
  Go.step (fun t hr => XS.ifYes X.here X.hx rfl rfl (X.dec hd) rfl hc ho hp hr) g
theorem W.ifF (X : Wk l Z EL y bytes maxL ret R B0 p e s m args below meth c B T h k n) {cd : ClassFile.Cond} {o : Int} {x : Int32} (hd : decode bytes pc = .ok (.ifCond cd o, 3)) (hc : ifCond.holds cd x = false) (hp : pc + 3 = pc') (g : Go l Z EL R B0 Q p e s m below T pc' ls st) : Go l Z EL R B0 Q p e s m below T pc ls (.int x :: st) := by
  subst hp; exact Go.step (fun t hr => XS.ifNo X.here X.hx rfl (X.dec hd) rfl hc hr) g
theorem W.icT (X : Wk l Z EL y bytes maxL ret R B0 p e s m args below meth c B T h k n) {cd : ClassFile.Cond} {x z : Int32} {o : Int} (hd : decode bytes pc = .ok (.if_icmp cd o, 3)) (hc : if_icmp.holds cd x z = true) (ho : 0 ≤ (pc : Int) + o) (hp : ((pc : Int) + o).toNat = pc') (g : Go l Z EL R B0 Q p e s m below T pc' ls st) : Go l Z EL R B0 Q p e s m below T pc ls (.int z :: .int x :: st) :=
  Go.step (fun t hr => XS.icmpYes X.here X.hx rfl rfl (X.dec hd) rfl hc ho hp hr) g
theorem W.icF (X : Wk l Z EL y bytes maxL ret R B0 p e s m args below meth c B T h k n) {cd : ClassFile.Cond} {o : Int} {x z : Int32} (hd : decode bytes pc = .ok (.if_icmp cd o, 3)) (hc : if_icmp.holds cd x z = false) (hp : pc + 3 = pc') (g : Go l Z EL R B0 Q p e s m below T pc' ls st) : Go l Z EL R B0 Q p e s m below T pc ls (.int z :: .int x :: st) := by
  subst hp; exact Go.step (fun t hr => XS.icmpNo X.here X.hx rfl (X.dec hd) rfl hc hr) g
theorem W.acT (X : Wk l Z EL y bytes maxL ret R B0 p e s m args below meth c B T h k n) {cd : ClassFile.ACond} {x z : Value} {o : Int} (hd : decode bytes pc = .ok (.if_acmp cd o, 3)) (h1 : x.isRef = true) (h2 : z.isRef = true) (hc : XT.acmp cd x z = true) (ho : 0 ≤ (pc : Int) + o) (hp : ((pc : Int) + o).toNat = pc') (g : Go l Z EL R B0 Q p e s m below T pc' ls st) : Go l Z EL R B0 Q p e s m below T pc ls (z :: x :: st) :=
  Go.step (fun t hr => XT.acmpYes X.here X.hx rfl rfl (X.dec hd) rfl h1 h2 hc ho hp hr) g
theorem W.acF (X : Wk l Z EL y bytes maxL ret R B0 p e s m args below meth c B T h k n) {cd : ClassFile.ACond} {o : Int} {x z : Value} (hd : decode bytes pc = .ok (.if_acmp cd o, 3)) (h1 : x.isRef = true) (h2 : z.isRef = true) (hc : XT.acmp cd x z = false) (hp : pc + 3 = pc') (g : Go l Z EL R B0 Q p e s m below T pc' ls st) : Go l Z EL R B0 Q p e s m below T pc ls (z :: x :: st) := by
  subst hp; exact Go.step (fun t hr => XT.acmpNo X.here X.hx rfl (X.dec hd) rfl h1 h2 hc hr) g
theorem W.nullT (X : Wk l Z EL y bytes maxL ret R B0 p e s m args below meth c B T h k n)  {o : Int} (hd : decode bytes pc = .ok (.ifnull o, 3))  (ho : 0 ≤ (pc : Int) + o) (hp : ((pc : Int) + o).toNat = pc') (g : Go l Z EL R B0 Q p e s m below T pc' ls st) : Go l Z EL R B0 Q p e s m below T pc ls (.null :: st) :=
  Go.step (fun t hr => XS.ifnullYes X.here X.hx rfl rfl (X.dec hd) rfl ho hp hr) g
theorem W.nullF (X : Wk l Z EL y bytes maxL ret R B0 p e s m args below meth c B T h k n) {o : Int} {r : Addr} (hd : decode bytes pc = .ok (.ifnull o, 3))  (hp : pc + 3 = pc') (g : Go l Z EL R B0 Q p e s m below T pc' ls st) : Go l Z EL R B0 Q p e s m below T pc ls (.ref r :: st) := by
  subst hp; exact Go.step (fun t hr => XS.ifnullNo X.here X.hx rfl (X.dec hd) rfl hr) g
theorem W.nonnullT (X : Wk l Z EL y bytes maxL ret R B0 p e s m args below meth c B T h k n) {r : Addr} {o : Int} (hd : decode bytes pc = .ok (.ifnonnull o, 3))  (ho : 0 ≤ (pc : Int) + o) (hp : ((pc : Int) + o).toNat = pc') (g : Go l Z EL R B0 Q p e s m below T pc' ls st) : Go l Z EL R B0 Q p e s m below T pc ls (.ref r :: st) :=
  Go.step (fun t hr => XT.ifnonnullYes X.here X.hx rfl rfl (X.dec hd) rfl ho hp hr) g
theorem W.nonnullF (X : Wk l Z EL y bytes maxL ret R B0 p e s m args below meth c B T h k n) {o : Int} (hd : decode bytes pc = .ok (.ifnonnull o, 3))  (hp : pc + 3 = pc') (g : Go l Z EL R B0 Q p e s m below T pc' ls st) : Go l Z EL R B0 Q p e s m below T pc ls (.null :: st) := by
  subst hp; exact Go.step (fun t hr => XT.ifnonnullNo X.here X.hx rfl (X.dec hd) rfl hr) g
theorem W.tsw (X : Wk l Z EL y bytes maxL ret R B0 p e s m args below meth c B T h k n) {dflt low high : Int} {offs : Array Int} {len : Nat} {o : Int} {i : Int32} (hd : decode bytes pc = .ok (.tableswitch dflt low high offs, len)) (hin : ¬ (i.toInt < low ∨ i.toInt > high)) (hoff : offs[(i.toInt - low).toNat]? = some o) (ho : 0 ≤ (pc : Int) + o) (hp : ((pc : Int) + o).toNat = pc') (g : Go l Z EL R B0 Q p e s m below T pc' ls st) : Go l Z EL R B0 Q p e s m below T pc ls (.int i :: st) :=
  Go.step (fun t hr => XS.tswIn X.here X.hx rfl rfl (X.dec hd) rfl hin hoff ho hp hr) g
theorem W.ldcI (X : Wk l Z EL y bytes maxL ret R B0 p e s m args below meth c B T h k n) {index : Nat} {v : Int32} (w : (Jvm.Cond.constant y.cls index v).before a0 Z = true) (hd : decode bytes pc = .ok (.ldc index, 2)) (hp : pc + 2 = pc') (g : Go l Z EL R B0 Q p e s m below T pc' ls (.int v :: st)) : Go l Z EL R B0 Q p e s m below T pc ls st := by
  obtain ⟨i0, hE, hz, hB, V, locs, q0, X1, eT, hZ, hown, hS, hq, hF, hC, hK⟩ := X
  subst hp
  exact Go.step (fun t hr => Jvm.Stand.ldcI (g := mkF m pc ls st) X1 i0.1 hown (mv (s := s.setVm V) hZ w) rfl (i0.2.1 ▸ hd) hr) g
theorem W.ldcJ (X : Wk l Z EL y bytes maxL ret R B0 p e s m args below meth c B T h k n) {index : Nat} {v : Int64} (w : (Jvm.Cond.constantLong y.cls index v).before a0 Z = true) (hd : decode bytes pc = .ok (.ldc2_w index, 3)) (hp : pc + 3 = pc') (g : Go l Z EL R B0 Q p e s m below T pc' ls (.long v :: st)) : Go l Z EL R B0 Q p e s m below T pc ls st := by
  obtain ⟨i0, hE, hz, hB, V, locs, q0, X1, eT, hZ, hown, hS, hq, hF, hC, hK⟩ := X
  subst hp
  exact Go.step (fun t hr => Jvm.Stand.ldc2J (g := mkF m pc ls st) X1 i0.1 hown (mv (s := s.setVm V) hZ w) rfl (i0.2.1 ▸ hd) hr) g
theorem W.getF (X : Wk l Z EL y bytes maxL ret R B0 p e s m args below meth c B T h k n) {index : Nat} {R0 O nm d : String} {v : Value} (w : (Jvm.Cond.fieldLink y.cls index R0 nm d).before a0 Z = true) (via : Via Z R0 O nm d) (F : Fld Z h a O nm d v) (hd : decode bytes pc = .ok (.getfield index, 3)) (hp : pc + 3 = pc') (g : ∀ T', Wk l Z EL y bytes maxL ret R B0 p e s m args below meth c B T' h k n → Go l Z EL R B0 Q p e s m below T' pc' ls (v :: st)) : Go l Z EL R B0 Q p e s m below T pc ls (.ref a :: st) := by
  obtain ⟨i0, hE, hz, hB, V, locs, q0, X1, eT, hZ, hown, hS, hq, hF, hC, hK⟩ := X
  obtain ⟨T', X', e', st'⟩ := RoadKit.getF X1 i0.1 hZ hown (host := "") (Or.inl w) via eT F (g := mkF m pc ls (.ref a :: st)) rfl rfl (i0.2.1 ▸ hd)
  subst hp
  exact Go.step st' (g T' ⟨i0, hE, hz, hB, V, locs, q0, X', e', hZ, hown, hS, hq, hF, hC, hK⟩)
theorem W.getS (X : Wk l Z EL y bytes maxL ret R B0 p e s m args below meth c B T h k n) {index : Nat} {R0 O nm d host : String} {v : Value} (w : (Jvm.Cond.fieldLink y.cls index R0 nm d).before a0 Z = true ∨ (Jvm.Cond.fieldLinkNest y.cls index R0 nm d host).before a0 Z = true) (via : Via Z R0 O nm d) (F : Sta Z Z.heap O nm d v) (hd : decode bytes pc = .ok (.getstatic index, 3)) (hp : pc + 3 = pc') (g : ∀ T', Wk l Z EL y bytes maxL ret R B0 p e s m args below meth c B T' h k n → Go l Z EL R B0 Q p e s m below T' pc' ls (v :: st)) : Go l Z EL R B0 Q p e s m below T pc ls st := by
  obtain ⟨i0, hE, hz, hB, V, locs, q0, X1, eT, hZ, hown, hS, hq, hF, hC, hK⟩ := X
  obtain ⟨T', X', e', st'⟩ := RoadKit.getS2 X1 i0.1 hZ hown w via eT (F.ext hE.1) (g := mkF m pc ls st) rfl (i0.2.1 ▸ hd)
  subst hp
  exact Go.step st' (g T' ⟨i0, hE, hz, hB, V, locs, q0, X', e', hZ, hown, hS, hq, hF, hC, hK⟩)
theorem En.wr {sl : Nat} {v : Value} (E : En Z B h) (W : Wr h h' a sl v) (q : Z.heap.size ≤ a) : En Z B h' := ⟨(Old.wr (n0 := Z.heap.size) ⟨rfl, E.1⟩ W q).2, fun x r => by rw [W.size]; exact E.2 x r⟩
theorem W.putF (X : Wk l Z EL y bytes maxL ret R B0 p e s m args below meth c B T h k n) {index kk : Nat} {R0 O nm d C : String} {v old : Value} {ty : FieldType} (w : (Jvm.Cond.fieldLink y.cls index R0 nm d).before a0 Z = true) (via : Via Z R0 O nm d) (F : Fld Z h a O nm d old) (E : Exa Z h a C) (L : (Jvm.Cond.lays C O nm d).before a0 Z = true ∨ ((Jvm.Cond.laysFinal C O nm d).before a0 Z = true ∧ y.cls = O ∧ y.name = "<init>")) (wi : (Jvm.Cond.instantiable C kk).before a0 Z = true)
    (hty : parseFieldDescriptor d = some ty) (hn : narrow ty v = v) (hf : fits ty v = true) (ha : Z.heap.size ≤ a) (hnb : ¬ B a) (hd : decode bytes pc = .ok (.putfield index, 3)) (hp : pc + 3 = pc') (g : ∀ T' h', Wk l Z EL y bytes maxL ret R B0 p e s m args below meth c B T' h' k n → Wr h h' a (RoadKit.slotOf Z O nm d) v → Go l Z EL R B0 Q p e s m below T' pc' ls st) : Go l Z EL R B0 Q p e s m below T pc ls (v :: .ref a :: st) := by
  obtain ⟨i0, hE, hz, hB, V, locs, q0, X1, eT, hZ, hown, hS, hq, hF, hC, hK⟩ := X
  obtain ⟨T', h', X', e', W, st'⟩ := RoadKit.putF X1 i0.1 hZ hown (host := "") (Or.inl w) via eT F E (L.imp id fun q => ⟨q.1, q.2.1, i0.2.2.2.2.2.1.trans q.2.2⟩) wi hty hn hf (g := mkF m pc ls (v :: .ref a :: st)) rfl rfl (i0.2.1 ▸ hd)
  subst hp
  have S : Safe Z EL V h a := fun r => hnb (hK a r)
  exact Go.step st' (g T' h' ⟨i0, hE.wr W ha, by rw [W.size]; exact hz, hB, V, _, q0, X', e', hZ, hown, hS, by rw [W.size]; exact hq, Fr.snoc X' hF ha, hC.wr W S, fun x r => hK x ((hC.wrStep W S).2 x r)⟩ W)
theorem W.cast (X : Wk l Z EL y bytes maxL ret R B0 p e s m args below meth c B T h k n) {index : Nat} {K : String} (w : (Jvm.Cond.classLink y.cls index K).before a0 Z = true) (F : Ins Z h a K true) (hd : decode bytes pc = .ok (.checkcast index, 3)) (hp : pc + 3 = pc') (g : ∀ T', Wk l Z EL y bytes maxL ret R B0 p e s m args below meth c B T' h k n → Go l Z EL R B0 Q p e s m below T' pc' ls (.ref a :: st)) : Go l Z EL R B0 Q p e s m below T pc ls (.ref a :: st) := by
  obtain ⟨i0, hE, hz, hB, V, locs, q0, X1, eT, hZ, hown, hS, hq, hF, hC, hK⟩ := X
  obtain ⟨T', X', e', st'⟩ := RoadKit.castY X1 i0.1 hZ hown w eT F (g := mkF m pc ls (.ref a :: st)) rfl rfl (i0.2.1 ▸ hd)
  subst hp
  exact Go.step st' (g T' ⟨i0, hE, hz, hB, V, locs, q0, X', e', hZ, hown, hS, hq, hF, hC, hK⟩)
theorem W.instY (X : Wk l Z EL y bytes maxL ret R B0 p e s m args below meth c B T h k n) {index : Nat} {K : String} (w : (Jvm.Cond.classLink y.cls index K).before a0 Z = true) (F : Ins Z h a K true) (hd : decode bytes pc = .ok (.instanceof index, 3)) (hp : pc + 3 = pc') (g : ∀ T', Wk l Z EL y bytes maxL ret R B0 p e s m args below meth c B T' h k n → Go l Z EL R B0 Q p e s m below T' pc' ls (.int 1 :: st)) : Go l Z EL R B0 Q p e s m below T pc ls (.ref a :: st) := by
  obtain ⟨i0, hE, hz, hB, V, locs, q0, X1, eT, hZ, hown, hS, hq, hF, hC, hK⟩ := X
  obtain ⟨T', X', e', st'⟩ := RoadKit.instY X1 i0.1 hZ hown w eT F (g := mkF m pc ls (.ref a :: st)) rfl rfl (i0.2.1 ▸ hd)
  subst hp
  exact Go.step st' (g T' ⟨i0, hE, hz, hB, V, locs, q0, X', e', hZ, hown, hS, hq, hF, hC, hK⟩)
theorem W.instN (X : Wk l Z EL y bytes maxL ret R B0 p e s m args below meth c B T h k n) {index : Nat} {K C : String} (w : (Jvm.Cond.classLink y.cls index K).before a0 Z = true) (E : Exa Z h a C) (F : ∃ c t, Z.vm.findClass C = some c ∧ Z.vm.findClass K = some t ∧ Z.vm.assignable c t = false) (hd : decode bytes pc = .ok (.instanceof index, 3)) (hp : pc + 3 = pc') (g : ∀ T', Wk l Z EL y bytes maxL ret R B0 p e s m args below meth c B T' h k n → Go l Z EL R B0 Q p e s m below T' pc' ls (.int 0 :: st)) : Go l Z EL R B0 Q p e s m below T pc ls (.ref a :: st) := by
  obtain ⟨i0, hE, hz, hB, V, locs, q0, X1, eT, hZ, hown, hS, hq, hF, hC, hK⟩ := X
  obtain ⟨T', X', e', st'⟩ := RoadKit.instNo X1 i0.1 hZ hown w eT E F (g := mkF m pc ls (.ref a :: st)) rfl rfl (i0.2.1 ▸ hd)
  subst hp
  exact Go.step st' (g T' ⟨i0, hE, hz, hB, V, locs, q0, X', e', hZ, hown, hS, hq, hF, hC, hK⟩)
theorem W.instNull (X : Wk l Z EL y bytes maxL ret R B0 p e s m args below meth c B T h k n) {index : Nat} (hd : decode bytes pc = .ok (.instanceof index, 3)) (hp : pc + 3 = pc') (g : Go l Z EL R B0 Q p e s m below T pc' ls (.int 0 :: st)) : Go l Z EL R B0 Q p e s m below T pc ls (.null :: st) := by
  obtain ⟨i0, hE, hz, hB, V, locs, q0, X1, eT, hZ, hown, hS, hq, hF, hC, hK⟩ := X
  subst hp
  exact Go.step (fun t hr => Jvm.Stand.instanceofNull X1 i0.1 (g := mkF m pc ls (.null :: st)) rfl rfl (i0.2.1 ▸ hd) t hr) g
theorem inst_ord {K : String} {n : Nat} (w : (Jvm.Cond.instantiable K n).before a0 Z = true) : ∃ t k, Z.vm.findClass K = some t ∧ Z.vm.classes[t]? = some k ∧ k.kind = .ordinary ∧ k.isInterface = false := by
  simp only [Cond.before, Cond.holds, Cond.value] at w
  cases ht : Z.vm.findClass K with
  | none => simp [ht] at w
  | some t =>
    cases hk : Z.vm.classes[t]? with
    | none => simp [ht, hk] at w
    | some k =>
      simp [ht, hk] at w
      exact ⟨t, k, rfl, hk, w.1.1.1, w.1.1.2.1⟩
theorem nsRoot {O K : String} {n : Nat} (wo : (Jvm.Cond.noSuperclass O).before a0 Z = true) (wk : (Jvm.Cond.instantiable K n).before a0 Z = true) (hn' : O ≠ K) : NS Z O K := by
  obtain ⟨t, kt, g0, g2, g5, g7⟩ := inst_ord wk
  obtain ⟨c, k, h1, h2, h3, -, -⟩ := Cond.noSuperclass_spec wo
  have ne := ids_ne h1 g0 hn'
  refine ⟨c, t, h1, g0, fun fuel => ?_⟩
  cases fuel with
  | zero => rfl
  | succ f => simp [Vm.isSubclassAux, ne, h2, h3]
theorem nsNo {C S K : String} {n : Nat} (w : (Jvm.Cond.superclass C S).before a0 Z = true) (wk : (Jvm.Cond.instantiable K n).before a0 Z = true) (N : NS Z S K) (hn : C ≠ K) : ∃ c t, Z.vm.findClass C = some c ∧ Z.vm.findClass K = some t ∧ Z.vm.assignable c t = false := by
  obtain ⟨t, kt, g0, g2, g5, g7⟩ := inst_ord wk
  obtain ⟨c, t', h0, g0', n3⟩ := NS.step w N hn
  cases g0.symm.trans g0'
  obtain ⟨p, k, kp, h1, h2, h3, h4, h5, -, h7⟩ := Cond.superclass_spec h0 w
  have ne := ids_ne h0 g0 hn
  refine ⟨c, t, h0, g0, ?_⟩
  show Z.vm.assignableAux (255 + 1) c t = false
  simp [Vm.assignableAux, ne, h2, g2, h5, g5, g7, Vm.isSubclass, n3]
theorem En.ext (E : En Z B h) (W : Ext h h') : En Z B h' := ⟨⟨Nat.le_trans E.1.1 W.1, fun x c q => W.2 x c (E.1.2 x c q)⟩, fun x r => Nat.lt_of_lt_of_le (E.2 x r) W.1⟩
theorem keepE (E : Ext h h') : Keep h h' [] := (Keep.refl h []).ext E
theorem W.new (X : Wk l Z EL y bytes maxL ret R B0 p e s m args below meth c B T h k n) {index sz : Nat} {C : String} (w : (Jvm.Cond.classLink y.cls index C).before a0 Z = true) (wi : (Jvm.Cond.instantiable C sz).before a0 Z = true) (wz : (Jvm.Cond.initialized C).before a0 Z = true) (hd : decode bytes pc = .ok (.new index, 3)) (hp : pc + 3 = pc') {k' n' : Nat} (hk : k + 1 ≤ k') (hn : n + sz ≤ n') (hk' : k' ≤ R.cells) (hn' : n' ≤ R.slots)
    (g : ∀ T' h' a, Wk l Z EL y bytes maxL ret R B0 p e s m args below meth c B T' h' k' n' → Keep h h' [] → h.size ≤ a → Z.heap.size ≤ a → ¬ B a → Exa Z h' a C → (∀ {O nm d : String} {ty : FieldType}, Laid Z a0 C O nm d → parseFieldDescriptor d = some ty → Fld Z h' a O nm d (defaultValue ty)) → Go l Z EL R B0 Q p e s m below T' pc' ls (.ref a :: st)) : Go l Z EL R B0 Q p e s m below T pc ls st := by
  have X0 := X
  obtain ⟨i0, hE, hz, hB, V, locs, q0, X1, eT, hZ, hown, hS, hq, hF, hC, hK⟩ := X
  obtain ⟨T', h', X', e', E, A, D, -, st'⟩ := RoadKit.newO X1 i0.1 hZ hown w wi wz eT (g := mkF m pc ls st) rfl (i0.2.1 ▸ hd) (Nat.le_trans hk hk') (Nat.le_trans hn hn')
  subst hp
  exact Go.step st' (g T' h' h.size ⟨i0, hE.ext E, Nat.le_trans hz E.1, hB, V, locs, q0, X'.mono hk hn, e', hZ, hown, hS, Nat.le_trans hq E.1, hF, hC.ext E, fun x r => hK x ((hC.step fun _ _ _ q => E.2 _ _ q).2 x r)⟩ (keepE E) (Nat.le_refl _) X0.z0 (X0.nb (Nat.le_refl _)) A D)
theorem W.newA (X : Wk l Z EL y bytes maxL ret R B0 p e s m args below meth c B T h k n) {aty : ArrayType} {z : Int32} {cap : Nat} (w : (Jvm.Cond.arrayClass (newarray.typeOf aty)).before a0 Z = true) (hd : decode bytes pc = .ok (.newarray aty, 2)) (hz0 : ¬ z < 0) (hcap : z.toNatClampNeg ≤ cap) (hcb : cap * 8 ≤ 536870912) (hp : pc + 2 = pc') {k' n' : Nat} (hk : k + 1 ≤ k') (hn : n + cap ≤ n') (hk' : k' ≤ R.cells) (hn' : n' ≤ R.slots)
    (g : ∀ T' h' a, Wk l Z EL y bytes maxL ret R B0 p e s m args below meth c B T' h' k' n' → Keep h h' [] → h.size ≤ a → Z.heap.size ≤ a → ¬ B a → Ar Z h' a (newarray.typeOf aty) (List.replicate z.toNatClampNeg (defaultValue (newarray.typeOf aty))) → Go l Z EL R B0 Q p e s m below T' pc' ls (.ref a :: st)) : Go l Z EL R B0 Q p e s m below T pc ls (.int z :: st) := by
  have X0 := X
  obtain ⟨i0, hE, hz, hB, V, locs, q0, X1, eT, hZ, hown, hS, hq, hF, hC, hK⟩ := X
  obtain ⟨T', h', cA, X', e', E, A, st'⟩ := RoadKit.newP X1 i0.1 hZ w eT (g := mkF m pc ls (.int z :: st)) rfl (i0.2.1 ▸ hd) rfl hz0 hcap hcb (Nat.le_trans hk hk') (Nat.le_trans hn hn')
  subst hp
  exact Go.step st' (g T' h' h.size ⟨i0, hE.ext E, Nat.le_trans hz E.1, hB, V, locs, q0, X'.mono hk hn, e', hZ, hown, hS, Nat.le_trans hq E.1, hF, hC.ext E, fun x r => hK x ((hC.step fun _ _ _ q => E.2 _ _ q).2 x r)⟩ (keepE E) (Nat.le_refl _) X0.z0 (X0.nb (Nat.le_refl _)) (Ar.new A hz0))
theorem W.newR (X : Wk l Z EL y bytes maxL ret R B0 p e s m args below meth c B T h k n) {index : Nat} {C : String} {z : Int32} {cap : Nat} (w1 : (Jvm.Cond.classLink y.cls index C).before a0 Z = true) (w2 : (Jvm.Cond.arrayOver (.object C)).before a0 Z = true) (hd : decode bytes pc = .ok (.anewarray index, 3)) (hz0 : ¬ z < 0) (hcap : z.toNatClampNeg ≤ cap) (hcb : cap * 8 ≤ 536870912) (hp : pc + 3 = pc') {k' n' : Nat} (hk : k + 1 ≤ k') (hn : n + cap ≤ n') (hk' : k' ≤ R.cells) (hn' : n' ≤ R.slots)
    (g : ∀ T' h' a, Wk l Z EL y bytes maxL ret R B0 p e s m args below meth c B T' h' k' n' → Keep h h' [] → h.size ≤ a → Z.heap.size ≤ a → ¬ B a → Ar Z h' a (.object C) (List.replicate z.toNatClampNeg .null) → Tk Z h' a C → Go l Z EL R B0 Q p e s m below T' pc' ls (.ref a :: st)) : Go l Z EL R B0 Q p e s m below T pc ls (.int z :: st) := by
  have X0 := X
  obtain ⟨i0, hE, hz, hB, V, locs, q0, X1, eT, hZ, hown, hS, hq, hF, hC, hK⟩ := X
  obtain ⟨T', h', cA, X', e', E, A, O, st'⟩ := RoadKit.newR X1 i0.1 hZ hown w1 w2 eT (g := mkF m pc ls (.int z :: st)) rfl (i0.2.1 ▸ hd) rfl hz0 hcap hcb (Nat.le_trans hk hk') (Nat.le_trans hn hn')
  subst hp
  exact Go.step st' (g T' h' h.size ⟨i0, hE.ext E, Nat.le_trans hz E.1, hB, V, locs, q0, X'.mono hk hn, e', hZ, hown, hS, Nat.le_trans hq E.1, hF, hC.ext E, fun x r => hK x ((hC.step fun _ _ _ q => E.2 _ _ q).2 x r)⟩ (keepE E) (Nat.le_refl _) X0.z0 (X0.nb (Nat.le_refl _)) (Ar.new A hz0) ⟨_, _, A, O⟩)
theorem W.alen (X : Wk l Z EL y bytes maxL ret R B0 p e s m args below meth c B T h k n) {z : Int32} (A : Ar Z h a ty vs) (hv : vs.length.toInt32 = z) (hd : decode bytes pc = .ok (.arraylength, 1)) (hp : pc + 1 = pc') (g : Go l Z EL R B0 Q p e s m below T pc' ls (.int z :: st)) : Go l Z EL R B0 Q p e s m below T pc ls (.ref a :: st) := by
  obtain ⟨i0, hE, hz, hB, V, locs, q0, X1, eT, hZ, hown, hS, hq, hF, hC, hK⟩ := X
  obtain ⟨cl, A, e1, -, -⟩ := A
  have e2 : cl.slots.size = vs.length := by rw [← e1]; simp
  subst hp hv
  rw [← e2] at g
  exact Go.step (fun t hr => X1.arraylength i0.1 (by rw [eT]; exact A.1) (State.isArrayOf_alike hZ.alike A.2.1) (g := mkF m pc ls (.ref a :: st)) rfl rfl (i0.2.1 ▸ hd) t hr) g
theorem W.caload (X : Wk l Z EL y bytes maxL ret R B0 p e s m args below meth c B T h k n) {j : Int32} {v : Value} (A : Ar Z h a .char vs) (hj : ¬ j < 0) (hv : vs[j.toNatClampNeg]? = some v) (hd : decode bytes pc = .ok (.caload, 1)) (hp : pc + 1 = pc') (g : Go l Z EL R B0 Q p e s m below T pc' ls (v :: st)) : Go l Z EL R B0 Q p e s m below T pc ls (.int j :: .ref a :: st) := by
  obtain ⟨i0, hE, hz, hB, V, locs, q0, X1, eT, hZ, hown, hS, hq, hF, hC, hK⟩ := X
  obtain ⟨cl, A, e1, -, -⟩ := A
  have e2 : cl.slots.size = vs.length := by rw [← e1]; simp
  have hlt : j.toNatClampNeg < vs.length := (List.getElem?_eq_some_iff.mp hv).1
  subst hp
  exact Go.step (fun t hr => X1.caload i0.1 (by rw [eT]; exact A.1) (State.isArrayOf_alike hZ.alike A.2.1) A.2.2 (fun r => r.elim hj fun z => by omega) (by rw [← Array.getElem?_toList, e1]; exact hv) (g := mkF m pc ls (.int j :: .ref a :: st)) rfl rfl (i0.2.1 ▸ hd) t hr) g
theorem W.baload (X : Wk l Z EL y bytes maxL ret R B0 p e s m args below meth c B T h k n) {j : Int32} {v : Value} (A : Ar Z h a .byte vs) (hj : ¬ j < 0) (hv : vs[j.toNatClampNeg]? = some v) (hd : decode bytes pc = .ok (.baload, 1)) (hp : pc + 1 = pc') (g : Go l Z EL R B0 Q p e s m below T pc' ls (v :: st)) : Go l Z EL R B0 Q p e s m below T pc ls (.int j :: .ref a :: st) := by
  obtain ⟨i0, hE, hz, hB, V, locs, q0, X1, eT, hZ, hown, hS, hq, hF, hC, hK⟩ := X
  obtain ⟨cl, A, e1, -, -⟩ := A
  have e2 : cl.slots.size = vs.length := by rw [← e1]; simp
  have hlt : j.toNatClampNeg < vs.length := (List.getElem?_eq_some_iff.mp hv).1
  subst hp
  exact Go.step (fun t hr => X1.baloadBytes i0.1 (by rw [eT]; exact A.1) (State.isArrayOf_alike hZ.alike A.2.1) A.2.2 (fun r => r.elim hj fun z => by omega) (by rw [← Array.getElem?_toList, e1]; exact hv) (g := mkF m pc ls (.int j :: .ref a :: st)) rfl rfl (i0.2.1 ▸ hd) t hr) g
theorem W.iaload (X : Wk l Z EL y bytes maxL ret R B0 p e s m args below meth c B T h k n) {j : Int32} {v : Value} (A : Ar Z h a .int vs) (hj : ¬ j < 0) (hv : vs[j.toNatClampNeg]? = some v) (hd : decode bytes pc = .ok (.iaload, 1)) (hp : pc + 1 = pc') (g : Go l Z EL R B0 Q p e s m below T pc' ls (v :: st)) : Go l Z EL R B0 Q p e s m below T pc ls (.int j :: .ref a :: st) := by
  obtain ⟨i0, hE, hz, hB, V, locs, q0, X1, eT, hZ, hown, hS, hq, hF, hC, hK⟩ := X
  obtain ⟨cl, A, e1, -, -⟩ := A
  have e2 : cl.slots.size = vs.length := by rw [← e1]; simp
  have hlt : j.toNatClampNeg < vs.length := (List.getElem?_eq_some_iff.mp hv).1
  subst hp
  exact Go.step (fun t hr => X1.iaload i0.1 (by rw [eT]; exact A.1) (State.isArrayOf_alike hZ.alike A.2.1) A.2.2 (fun r => r.elim hj fun z => by omega) (by rw [← Array.getElem?_toList, e1]; exact hv) (g := mkF m pc ls (.int j :: .ref a :: st)) rfl rfl (i0.2.1 ▸ hd) t hr) g
theorem W.laload (X : Wk l Z EL y bytes maxL ret R B0 p e s m args below meth c B T h k n) {j : Int32} {v : Value} (A : Ar Z h a .long vs) (hj : ¬ j < 0) (hv : vs[j.toNatClampNeg]? = some v) (hd : decode bytes pc = .ok (.laload, 1)) (hp : pc + 1 = pc') (g : Go l Z EL R B0 Q p e s m below T pc' ls (v :: st)) : Go l Z EL R B0 Q p e s m below T pc ls (.int j :: .ref a :: st) := by
  obtain ⟨i0, hE, hz, hB, V, locs, q0, X1, eT, hZ, hown, hS, hq, hF, hC, hK⟩ := X
  obtain ⟨cl, A, e1, -, -⟩ := A
  have e2 : cl.slots.size = vs.length := by rw [← e1]; simp
  have hlt : j.toNatClampNeg < vs.length := (List.getElem?_eq_some_iff.mp hv).1
  subst hp
  exact Go.step (fun t hr => X1.laload i0.1 (by rw [eT]; exact A.1) (State.isArrayOf_alike hZ.alike A.2.1) A.2.2 (fun r => r.elim hj fun z => by omega) (by rw [← Array.getElem?_toList, e1]; exact hv) (g := mkF m pc ls (.int j :: .ref a :: st)) rfl rfl (i0.2.1 ▸ hd) t hr) g
theorem W.zaload (X : Wk l Z EL y bytes maxL ret R B0 p e s m args below meth c B T h k n) {j : Int32} {v : Value} (A : Ar Z h a .boolean vs) (hj : ¬ j < 0) (hv : vs[j.toNatClampNeg]? = some v) (hd : decode bytes pc = .ok (.baload, 1)) (hp : pc + 1 = pc') (g : Go l Z EL R B0 Q p e s m below T pc' ls (v :: st)) : Go l Z EL R B0 Q p e s m below T pc ls (.int j :: .ref a :: st) := by
  obtain ⟨i0, hE, hz, hB, V, locs, q0, X1, eT, hZ, hown, hS, hq, hF, hC, hK⟩ := X
  obtain ⟨cl, A, e1, -, -⟩ := A
  have e2 : cl.slots.size = vs.length := by rw [← e1]; simp
  have hlt : j.toNatClampNeg < vs.length := (List.getElem?_eq_some_iff.mp hv).1
  subst hp
  exact Go.step (fun t hr => X1.baloadBooleans i0.1 (by rw [eT]; exact A.1) (State.isArrayOf_alike hZ.alike A.2.1) A.2.2 (fun r => r.elim hj fun z => by omega) (by rw [← Array.getElem?_toList, e1]; exact hv) (g := mkF m pc ls (.int j :: .ref a :: st)) rfl rfl (i0.2.1 ▸ hd) t hr) g
theorem W.aaload (X : Wk l Z EL y bytes maxL ret R B0 p e s m args below meth c B T h k n) {j : Int32} {v : Value} (A : Ar Z h a ty vs) (hty : ty.isReference = true) (hj : ¬ j < 0) (hv : vs[j.toNatClampNeg]? = some v) (hd : decode bytes pc = .ok (.aaload, 1)) (hp : pc + 1 = pc') (g : Go l Z EL R B0 Q p e s m below T pc' ls (v :: st)) : Go l Z EL R B0 Q p e s m below T pc ls (.int j :: .ref a :: st) := by
  obtain ⟨i0, hE, hz, hB, V, locs, q0, X1, eT, hZ, hown, hS, hq, hF, hC, hK⟩ := X
  obtain ⟨cl, A, e1, -, -⟩ := A
  have e2 : cl.slots.size = vs.length := by rw [← e1]; simp
  have hlt : j.toNatClampNeg < vs.length := (List.getElem?_eq_some_iff.mp hv).1
  subst hp
  exact Go.step (fun t hr => X1.aaload i0.1 (by rw [eT]; exact A.1) (State.isArrayOf_alike hZ.alike A.2.1) hty A.2.2 (fun r => r.elim hj fun z => by omega) (by rw [← Array.getElem?_toList, e1]; exact hv) (g := mkF m pc ls (.int j :: .ref a :: st)) rfl rfl (i0.2.1 ▸ hd) t hr) g
theorem Ar.set {cl : Cell} {i : Nat} {v : Value} (A : Arr Z h a cl ty) (e1 : cl.slots.toList = vs) (hl : vs.length < 2 ^ 31) (hf : ∀ v ∈ vs, fits ty v = true) (hv : fits ty v = true) (W : Wr h h' a i v) : Ar Z h' a ty (vs.set i v) :=
  ⟨_, A.same W, by simp [Cell.setSlot, ← e1], by simpa using hl, fun w hw => (List.mem_or_eq_of_mem_set hw).elim (hf w) fun q => q ▸ hv⟩
theorem W.castore (X : Wk l Z EL y bytes maxL ret R B0 p e s m args below meth c B T h k n) {j : Int32} {x x' : Int32} {i : Nat} (A : Ar Z h a .char vs) (hj : ¬ j < 0) (hi : j.toNatClampNeg = i) (hl : i < vs.length) (hx : nar .char x = x') (ha : Z.heap.size ≤ a) (hnb : ¬ B a) (hd : decode bytes pc = .ok (.castore, 1)) (hp : pc + 1 = pc') (g : ∀ T' h', Wk l Z EL y bytes maxL ret R B0 p e s m args below meth c B T' h' k n → Keep h h' [a] → Ar Z h' a .char (vs.set i (.int x')) → Go l Z EL R B0 Q p e s m below T' pc' ls st) : Go l Z EL R B0 Q p e s m below T pc ls (.int x :: .int j :: .ref a :: st) := by
  obtain ⟨i0, hE, hz, hB, V, locs, q0, X1, eT, hZ, hown, hS, hq, hF, hC, hK⟩ := X
  obtain ⟨cl, A, e1, hl31, hfit⟩ := A
  have e2 : cl.slots.size = vs.length := by rw [← e1]; simp
  subst hi hx
  obtain ⟨T', h', X', e', W, st'⟩ := RoadKit.stC X1 i0.1 hZ eT A (fun r => r.elim hj fun z => by omega) (g := mkF m pc ls (.int x :: .int j :: .ref a :: st)) rfl rfl (i0.2.1 ▸ hd)
  subst hp
  have S : Safe Z EL V h a := fun r => hnb (hK a r)
  exact Go.step st' (g T' h' ⟨i0, hE.wr W ha, by rw [W.size]; exact hz, hB, V, _, q0, X', e', hZ, hown, hS, by rw [W.size]; exact hq, Fr.snoc X' hF ha, hC.wr W S, fun x r => hK x ((hC.wrStep W S).2 x r)⟩ (Keep.of_wr W) (Ar.set A e1 hl31 hfit (fits_nar_char x) W))
theorem W.bastore (X : Wk l Z EL y bytes maxL ret R B0 p e s m args below meth c B T h k n) {j : Int32} {x x' : Int32} {i : Nat} (A : Ar Z h a .byte vs) (hj : ¬ j < 0) (hi : j.toNatClampNeg = i) (hl : i < vs.length) (hx : nar .byte x = x') (ha : Z.heap.size ≤ a) (hnb : ¬ B a) (hd : decode bytes pc = .ok (.bastore, 1)) (hp : pc + 1 = pc') (g : ∀ T' h', Wk l Z EL y bytes maxL ret R B0 p e s m args below meth c B T' h' k n → Keep h h' [a] → Ar Z h' a .byte (vs.set i (.int x')) → Go l Z EL R B0 Q p e s m below T' pc' ls st) : Go l Z EL R B0 Q p e s m below T pc ls (.int x :: .int j :: .ref a :: st) := by
  obtain ⟨i0, hE, hz, hB, V, locs, q0, X1, eT, hZ, hown, hS, hq, hF, hC, hK⟩ := X
  obtain ⟨cl, A, e1, hl31, hfit⟩ := A
  have e2 : cl.slots.size = vs.length := by rw [← e1]; simp
  subst hi hx
  obtain ⟨T', h', X', e', W, st'⟩ := RoadKit.stB X1 i0.1 hZ eT A (fun r => r.elim hj fun z => by omega) (g := mkF m pc ls (.int x :: .int j :: .ref a :: st)) rfl rfl (i0.2.1 ▸ hd)
  subst hp
  have S : Safe Z EL V h a := fun r => hnb (hK a r)
  exact Go.step st' (g T' h' ⟨i0, hE.wr W ha, by rw [W.size]; exact hz, hB, V, _, q0, X', e', hZ, hown, hS, by rw [W.size]; exact hq, Fr.snoc X' hF ha, hC.wr W S, fun x r => hK x ((hC.wrStep W S).2 x r)⟩ (Keep.of_wr W) (Ar.set A e1 hl31 hfit (fits_nar_byte x) W))
theorem W.iastore (X : Wk l Z EL y bytes maxL ret R B0 p e s m args below meth c B T h k n) {j : Int32} {x x' : Int32} {i : Nat} (A : Ar Z h a .int vs) (hj : ¬ j < 0) (hi : j.toNatClampNeg = i) (hl : i < vs.length) (hx : x = x') (ha : Z.heap.size ≤ a) (hnb : ¬ B a) (hd : decode bytes pc = .ok (.iastore, 1)) (hp : pc + 1 = pc') (g : ∀ T' h', Wk l Z EL y bytes maxL ret R B0 p e s m args below meth c B T' h' k n → Keep h h' [a] → Ar Z h' a .int (vs.set i (.int x')) → Go l Z EL R B0 Q p e s m below T' pc' ls st) : Go l Z EL R B0 Q p e s m below T pc ls (.int x :: .int j :: .ref a :: st) := by
  obtain ⟨i0, hE, hz, hB, V, locs, q0, X1, eT, hZ, hown, hS, hq, hF, hC, hK⟩ := X
  obtain ⟨cl, A, e1, hl31, hfit⟩ := A
  have e2 : cl.slots.size = vs.length := by rw [← e1]; simp
  subst hi hx
  obtain ⟨T', h', X', e', W, st'⟩ := RoadKit.stI X1 i0.1 hZ eT A (fun r => r.elim hj fun z => by omega) (g := mkF m pc ls (.int x :: .int j :: .ref a :: st)) rfl rfl (i0.2.1 ▸ hd)
  subst hp
  have S : Safe Z EL V h a := fun r => hnb (hK a r)
  exact Go.step st' (g T' h' ⟨i0, hE.wr W ha, by rw [W.size]; exact hz, hB, V, _, q0, X', e', hZ, hown, hS, by rw [W.size]; exact hq, Fr.snoc X' hF ha, hC.wr W S, fun x r => hK x ((hC.wrStep W S).2 x r)⟩ (Keep.of_wr W) (Ar.set A e1 hl31 hfit (rfl) W))
theorem W.lastore (X : Wk l Z EL y bytes maxL ret R B0 p e s m args below meth c B T h k n) {j : Int32} {x x' : Int64} {i : Nat} (A : Ar Z h a .long vs) (hj : ¬ j < 0) (hi : j.toNatClampNeg = i) (hl : i < vs.length) (hx : x = x') (ha : Z.heap.size ≤ a) (hnb : ¬ B a) (hd : decode bytes pc = .ok (.lastore, 1)) (hp : pc + 1 = pc') (g : ∀ T' h', Wk l Z EL y bytes maxL ret R B0 p e s m args below meth c B T' h' k n → Keep h h' [a] → Ar Z h' a .long (vs.set i (.long x')) → Go l Z EL R B0 Q p e s m below T' pc' ls st) : Go l Z EL R B0 Q p e s m below T pc ls (.long x :: .int j :: .ref a :: st) := by
  obtain ⟨i0, hE, hz, hB, V, locs, q0, X1, eT, hZ, hown, hS, hq, hF, hC, hK⟩ := X
  obtain ⟨cl, A, e1, hl31, hfit⟩ := A
  have e2 : cl.slots.size = vs.length := by rw [← e1]; simp
  subst hi hx
  obtain ⟨T', h', X', e', W, st'⟩ := RoadKit.stJ X1 i0.1 hZ eT A (fun r => r.elim hj fun z => by omega) (g := mkF m pc ls (.long x :: .int j :: .ref a :: st)) rfl rfl (i0.2.1 ▸ hd)
  subst hp
  have S : Safe Z EL V h a := fun r => hnb (hK a r)
  exact Go.step st' (g T' h' ⟨i0, hE.wr W ha, by rw [W.size]; exact hz, hB, V, _, q0, X', e', hZ, hown, hS, by rw [W.size]; exact hq, Fr.snoc X' hF ha, hC.wr W S, fun x r => hK x ((hC.wrStep W S).2 x r)⟩ (Keep.of_wr W) (Ar.set A e1 hl31 hfit (rfl) W))
theorem W.aastore (X : Wk l Z EL y bytes maxL ret R B0 p e s m args below meth c B T h k n) {j : Int32} {v : Value} {i : Nat} (A : Ar Z h a ty vs) (hj : ¬ j < 0) (hi : j.toNatClampNeg = i) (hl : i < vs.length) (hty : ty.isReference = true) (F : Sto Z h a v) (hvf : fits ty v = true) (ha : Z.heap.size ≤ a) (hnb : ¬ B a) (hd : decode bytes pc = .ok (.aastore, 1)) (hp : pc + 1 = pc') (g : ∀ T' h', Wk l Z EL y bytes maxL ret R B0 p e s m args below meth c B T' h' k n → Keep h h' [a] → Ar Z h' a ty (vs.set i v) → Go l Z EL R B0 Q p e s m below T' pc' ls st) : Go l Z EL R B0 Q p e s m below T pc ls (v :: .int j :: .ref a :: st) := by
  obtain ⟨i0, hE, hz, hB, V, locs, q0, X1, eT, hZ, hown, hS, hq, hF, hC, hK⟩ := X
  obtain ⟨cl, A, e1, hl31, hfit⟩ := A
  have e2 : cl.slots.size = vs.length := by rw [← e1]; simp
  subst hi
  obtain ⟨T', h', X', e', W, st'⟩ := RoadKit.stR X1 i0.1 hZ eT A (fun r => r.elim hj fun z => by omega) hty F (g := mkF m pc ls (v :: .int j :: .ref a :: st)) rfl rfl (i0.2.1 ▸ hd)
  subst hp
  have S : Safe Z EL V h a := fun r => hnb (hK a r)
  exact Go.step st' (g T' h' ⟨i0, hE.wr W ha, by rw [W.size]; exact hz, hB, V, _, q0, X', e', hZ, hown, hS, by rw [W.size]; exact hq, Fr.snoc X' hF ha, hC.wr W S, fun x r => hK x ((hC.wrStep W S).2 x r)⟩ (Keep.of_wr W) (Ar.set A e1 hl31 hfit hvf W))
theorem Sto.tk {C : String} (F : Tk Z h a C) (I : Ins Z h b C true) : Sto Z h a (.ref b) := by obtain ⟨c, ty, A, O⟩ := F; exact Sto.of A O I
/-! Object.<init> -/
theorem W.initO (X : Wk l Z EL y bytes maxL ret R B0 p e s m args below meth c B T h k n) {idx W : Nat} (w1 : (Jvm.Cond.methodLink y.cls idx Lib.objectInit).before a0 Z = true) (w2 : (Jvm.Cond.instanceMethod Lib.objectInit).before a0 Z = true) (w3 : (Jvm.Cond.code Lib.objectInit ⟨#[0xb1]⟩ 1 none).before a0 Z = true) (hd : decode bytes pc = .ok (.invokespecial idx, 3)) (hsize : ls.size = maxL) (hf : 1 ≤ R.frames) (hW : (st.map fun v => v.category).sum ≤ W) (hl : W + 12 ≤ R.locals) (hp : pc + 3 = pc') (g : ∀ T', Wk l Z EL y bytes maxL ret R B0 p e s m args below meth c B T' h k n → Go l Z EL R B0 Q p e s m below T' pc' ls st) : Go l Z EL R B0 Q p e s m below T pc ls (.ref a :: st) := by
  obtain ⟨i0, hE, hz, hB, V, locs, q0, X1, eT, hZ, hown, hS, hq, hF, hC, hK⟩ := X
  obtain ⟨T', X', e', st'⟩ := RoadKit.initO X1 i0.1 hZ hown w1 w2 w3 eT (g := mkF m pc ls (.ref a :: st)) rfl (hsize.trans i0.2.2.1.symm) rfl (i0.2.1 ▸ hd) hf (W := W) (by show 2 * 0 + _ ≤ _; omega) hl
  subst hp
  exact Go.step st' (g T' ⟨i0, hE, hz, hB, V, locs, q0, X', e', hZ, hown, hS, hq, hF, hC, hK⟩)
theorem sameM {C : String} {z z' : MethodName} (hc : z.cls = z'.cls) (hy : z.cls ≠ "java/lang/invoke/MethodHandle" ∧ z.cls ≠ "java/lang/invoke/VarHandle") (wi : (Jvm.Cond.instanceMethod z).before a0 Z = true) (ws : (Jvm.Cond.selects C z' z').before a0 Z = true) : (Jvm.Cond.sameMethod z.cls z.cls z.name z.desc).before a0 Z = true := by
  obtain ⟨mk, methM, hnamed, -, -, -⟩ := Cond.instanceMethod_spec wi
  obtain ⟨c2, r2, m2, q1, q2, q3, q4, kP, hkP, hkPi⟩ := Cond.selects_spec ws
  have f1 := findClass_of_methodNamed hnamed
  have f2 := findClass_of_methodNamed q3
  rw [← hc, f1] at f2
  have e : mk.cls = m2.cls := Option.some.inj f2
  have hf : Z.methodFound? z.cls z.name z.desc = some mk := State.methodFound?_of_named hnamed hy
  have hn' : Z.methodNamed? ⟨z.cls, z.name, z.desc⟩ = some mk := hnamed
  simp [Cond.before, Cond.holds, Cond.value, f1, hf, hn', e, hkP, hkPi]
theorem nfM {C : String} {z z' : MethodName} (hc : z.cls = z'.cls) (ws : (Jvm.Cond.selects C z' z').before a0 Z = true) : NotFace Z z := fun r0 h0 => by
  obtain ⟨c2, r2, m2, q1, q2, q3, q4, kP, hkP, hkPi⟩ := Cond.selects_spec ws
  have f1 := findClass_of_methodNamed h0
  have f2 := findClass_of_methodNamed q3
  rw [← hc, f1] at f2
  have e : r0.cls = m2.cls := Option.some.inj f2
  exact ⟨kP, by rw [e]; exact hkP, hkPi⟩
/-! calls -/
theorem BackS.con {z : MethodName} {zb : ByteArray} {zl len W : Nat} {zr : Option FieldType} {rm : Room} {as' : Array Value} {Qc : Option Value → Heap → (Addr → Prop) → Prop} {V : Vm} (K : Con l Z EL [] z zb zl zr rm B h as' Qc) (hZ : Z.Warmed39 V) (wc : (Jvm.Cond.code z zb zl zr).before a0 Z = true) (wz : (Jvm.Cond.initialized z.cls).before a0 Z = true) (hf : rm.frames + 1 ≤ R.frames) (hl : W + (zl + 11) + rm.locals ≤ R.locals) {a1 : Array Value} (hEL : EW Z a1 EL) (H : CHv Z EL V h) (hK : ∀ x, Bk Z EL V h x → B x) :
    BackS l R p e below (s.setVm V) args z len W (fun A a => a = as' ∧ A.U.heap = h ∧ A.cells + rm.cells ≤ R.cells ∧ A.slots + rm.slots ≤ R.slots)
      (fun A _ v B1 => ∃ L B', B1.locs = A.locs ++ L ∧ B1.cells = A.cells + rm.cells ∧ B1.slots = A.slots + rm.slots ∧ Fr Z.heap.size L ∧ CHv Z EL B1.U.vm B1.U.heap ∧ (∀ x, Bk Z EL B1.U.vm B1.U.heap x → B' x) ∧ (∀ x, B' x → B x ∨ h.size ≤ x) ∧ En Z B' B1.U.heap ∧ h.size ≤ B1.U.heap.size ∧ Qc v B1.U.heap B') :=
  BackS.of_freeW (bytes := zb) (maxL := zl) (ret := zr) (E := fun _ first o t L k n => k = rm.cells ∧ n = rm.slots ∧ ∃ v B', o = .returned v ∧ Fr Z.heap.size L ∧ CHv Z EL t.vm t.heap ∧ (∀ x, Bk Z EL t.vm t.heap x → B' x) ∧ (∀ x, B' x → B x ∨ h.size ≤ x) ∧ En Z B' t.heap ∧ h.size ≤ t.heap.size ∧ Qc v t.heap B') K hf hl
    (fun m meth c A a Y hp => have hU : Z.Warmed39 A.U.vm := wtrans (s := s.setVm V) hZ Y.warmed
      ⟨by show (Jvm.Cond.and _ .tt).before a A.U = true; rw [Cond.before_and, mv hU wc]; rfl, mv hU wc, mv hU wz, hp.2.2.1, hp.2.2.2⟩)
    (fun m meth c A a g mk Y hp => ⟨hp.1, wtrans (s := s.setVm V) hZ Y.warmed, hp.2.1, (CHv.at Y hZ hEL H).1, fun x r => by
      rcases (CHv.at Y hZ hEL H).2.2 x r with q | q
      · exact hK x q
      · obtain ⟨cell, q2⟩ := r.there
        exact absurd (Array.getElem?_eq_some_iff.mp q2).1 (Nat.not_lt.mpr q)⟩) (fun _ _ _ _ _ _ _ _ _ => trivial)
    (fun _ _ _ _ ⟨v, L, B', h1, h2, h3, h4, h5, h6, h7, h8, h9⟩ => ⟨L, _, _, h9, rfl, rfl, v, B', h1, h2, h3, h4, h5, h6, h7, h8⟩)
    (fun m meth c A a g mk v t L k n Y hp _ _ ⟨e1, e2, v', B', e3, e4, e5, e6, e7, e8, e9, e10⟩ => by
      cases e3; subst e1 e2
      exact ⟨L, B', rfl, rfl, rfl, e4, e5, e6, e7, e8, e9, e10⟩)
/-- behind a call -/
theorem Wk.after {V : Vm} {q0 : Nat} {locs : List Loc} {U : State} {L : List Loc} {B' : Addr → Prop} {k1 n1 : Nat} (i0 : p.tables.exec = Jvm.exec ∧ c.code = bytes ∧ c.maxLocals = maxL ∧ meth.sig.returnType = ret ∧ meth.locks = false ∧ meth.name = y.name ∧ ∃ a1, EW Z a1 EL) (hz : s.heap.size ≤ h.size) (hB : ∀ x, B x → B0 x ∨ s.heap.size ≤ x) (hZ : Z.Warmed39 V) (hown : V.findClass y.cls = some m.cls) (hS : s.Since V q0) (hq : q0 ≤ h.size) (hF : Fr Z.heap.size locs)
    (X2 : Stand p l e R ((s.setVm V).setVm U.vm) m args below meth c U (locs ++ L) k1 n1) (hS2 : (s.setVm V).Since U.vm U.heap.size) (r1 : Fr Z.heap.size L) (r2 : CHv Z EL U.vm U.heap) (r3 : ∀ x, Bk Z EL U.vm U.heap x → B' x) (r4 : ∀ x, B' x → B x ∨ h.size ≤ x) (r5 : En Z B' U.heap) (r6 : h.size ≤ U.heap.size) : Wk l Z EL y bytes maxL ret R B0 p e s m args below meth c B' U U.heap k1 n1 :=
  ⟨i0, r5, Nat.le_trans hz r6, fun x r => (r4 x r).elim (hB x) fun q => Or.inr (Nat.le_trans hz q), U.vm, locs ++ L, U.heap.size, X2, rfl, State.Warmed39.trans (t := s.setVm V) hZ hS2.1, (hS2.1.alike.findClass _ _).trans hown, hS.trans hS2 (Nat.le_trans hq r6), Nat.le_refl _, hF.app r1, r2, r3⟩
theorem W.callS (X : Wk l Z EL y bytes maxL ret R B0 p e s m args below meth c B T h k n) {index : Nat} {z : MethodName} {zb : ByteArray} {zl W : Nat} {zr : Option FieldType} {rm : Room} {as' : Array Value} {Qc : Option Value → Heap → (Addr → Prop) → Prop} {argsL stk : List Value} (K : Con l Z EL [] z zb zl zr rm B h as' Qc) (w1 : (Jvm.Cond.methodLink y.cls index z).before a0 Z = true) (w2 : (Jvm.Cond.static z).before a0 Z = true) (wc : (Jvm.Cond.code z zb zl zr).before a0 Z = true) (wz : (Jvm.Cond.initialized z.cls).before a0 Z = true) (hy : z.cls ≠ "java/lang/invoke/MethodHandle" ∧ z.cls ≠ "java/lang/invoke/VarHandle") (hf : rm.frames + 1 ≤ R.frames) (hl : W + (zl + 11) + rm.locals ≤ R.locals) (hsize : ls.size = maxL)
    (hlen : ∀ sig, parseMethodDescriptor z.desc = some sig → argsL.length = sig.parameters.length) (has : argsL.toArray = as') (hstk : stk = argsL.reverse ++ st) (hW : (st.map fun v => v.category).sum ≤ W) (hd : decode bytes pc = .ok (.invokestatic index, 3)) (hp : pc + 3 = pc') {k' n' : Nat} (hk1 : k + rm.cells ≤ k') (hn1 : n + rm.slots ≤ n') (hk2 : k' ≤ R.cells) (hn2 : n' ≤ R.slots)
    (g : ∀ T' h' B' v, Wk l Z EL y bytes maxL ret R B0 p e s m args below meth c B' T' h' k' n' → h.size ≤ h'.size → (∀ x, B' x → B x ∨ h.size ≤ x) → Qc v h' B' → Go l Z EL R B0 Q p e s m below T' pc' ls (v.toList ++ st)) : Go l Z EL R B0 Q p e s m below T pc ls stk := by
  obtain ⟨i0, hE, hz, hB, V, locs, q0, X1, eT, hZ, hown, hS, hq, hF, hC, hK⟩ := X
  obtain ⟨a1, hEL⟩ := i0.2.2.2.2.2.2
  obtain ⟨v, vm₁, ⟨U, Lu, ku, nu⟩, hWv, X2, hS2, hgr, ⟨L, B', e1, e2, e3, r1, r2, r3, r4, r5, r6, r7⟩, st'⟩ := Jvm.RoadKit.callSS X1 i0.1 (y := z) hown (mv (s := s.setVm V) hZ w1) (mv (s := s.setVm V) hZ w2) (mv (s := s.setVm V) hZ wz) (mv (s := s.setVm V) hZ wc) hy (BackS.con K hZ wc wz hf hl hEL hC hK) (g := mkF m pc ls stk) rfl (hsize.trans i0.2.2.1.symm) (argsL := argsL) (rest := st) hlen hstk (by show 2 * 0 + _ ≤ _; omega) (i0.2.1 ▸ hd) (fun _ _ => ⟨has, eT, by show k + _ ≤ _; omega, by show n + _ ≤ _; omega⟩)
  dsimp only [Pt.U, Pt.locs, Pt.cells, Pt.slots] at X2 hS2 hgr e1 e2 e3 r2 r3 r5 r6 r7 st'
  subst e1 e2 e3 hp
  exact Go.via st' (g U U.heap B' v ((Wk.after i0 hz hB hZ hown hS hq hF X2 hS2 r1 r2 r3 r4 r5 r6).mono hk1 hn1) r6 r4 r7)
theorem W.callV (X : Wk l Z EL y bytes maxL ret R B0 p e s m args below meth c B T h k n) {index : Nat} {z : MethodName} {zi : MethodName} {C : String} {zb : ByteArray} {zl W : Nat} {zr : Option FieldType} {rm : Room} {as' : Array Value} {Qc : Option Value → Heap → (Addr → Prop) → Prop} {argsL stk : List Value} (K : Con l Z EL [] z zb zl zr rm B h as' Qc) (w1 : (Jvm.Cond.methodLink y.cls index zi).before a0 Z = true) (w2 : (Jvm.Cond.declares zi).before a0 Z = true) (w3 : NotFace Z zi) (w4 : (Jvm.Cond.selects C zi z).before a0 Z = true) (w5 : (Jvm.Cond.instanceMethod z).before a0 Z = true) (E : Exa Z h a C) (wc : (Jvm.Cond.code z zb zl zr).before a0 Z = true) (wz : (Jvm.Cond.initialized z.cls).before a0 Z = true) (hy : zi.cls ≠ "java/lang/invoke/MethodHandle" ∧ zi.cls ≠ "java/lang/invoke/VarHandle") (hf : rm.frames + 1 ≤ R.frames) (hl : W + (zl + 11) + rm.locals ≤ R.locals) (hsize : ls.size = maxL)
    (hlen : ∀ sig, parseMethodDescriptor zi.desc = some sig → argsL.length = sig.parameters.length) (has : (.ref a :: argsL).toArray = as') (hstk : stk = argsL.reverse ++ .ref a :: st) (hW : (st.map fun v => v.category).sum ≤ W) (hd : decode bytes pc = .ok (.invokevirtual index, 3)) (hp : pc + 3 = pc') {k' n' : Nat} (hk1 : k + rm.cells ≤ k') (hn1 : n + rm.slots ≤ n') (hk2 : k' ≤ R.cells) (hn2 : n' ≤ R.slots)
    (g : ∀ T' h' B' v, Wk l Z EL y bytes maxL ret R B0 p e s m args below meth c B' T' h' k' n' → h.size ≤ h'.size → (∀ x, B' x → B x ∨ h.size ≤ x) → Qc v h' B' → Go l Z EL R B0 Q p e s m below T' pc' ls (v.toList ++ st)) : Go l Z EL R B0 Q p e s m below T pc ls stk := by
  obtain ⟨i0, hE, hz, hB, V, locs, q0, X1, eT, hZ, hown, hS, hq, hF, hC, hK⟩ := X
  obtain ⟨a1, hEL⟩ := i0.2.2.2.2.2.2
  obtain ⟨cB, kB, j1, j2, j3⟩ := isOf (s := s.setVm V) hZ eT E
  have w3' : NotFace (s.setVm V) zi := fun r0 h0 => by
    have h0' : (Z.setVm V).methodNamed? zi = some r0 := h0
    rw [State.methodNamed?_setVm hZ.alike] at h0'
    obtain ⟨kr, q1, q2⟩ := w3 r0 h0'
    obtain ⟨k2, q3, q4⟩ := hZ.alike.2.2 _ _ q1
    exact ⟨k2, q3, by rw [q4]; exact q2⟩
  obtain ⟨v, vm₁, ⟨U, Lu, ku, nu⟩, hWv, X2, hS2, hgr, ⟨L, B', e1, e2, e3, r1, r2, r3, r4, r5, r6, r7⟩, st'⟩ := X1.virtualBackS i0.1 (y := zi) (z := z) hown (mv (s := s.setVm V) hZ w1) (mv (s := s.setVm V) hZ w2) w3' (mv (s := s.setVm V) hZ w4) (mv (s := s.setVm V) hZ w5) hy (BackS.con K hZ wc wz hf hl hEL hC hK) j1 j3 (g := mkF m pc ls stk) rfl (hsize.trans i0.2.2.1.symm) (Steps.refl _) (argsL := argsL) (rest := st) hlen hstk (by show 2 * 0 + _ ≤ _; omega) (i0.2.1 ▸ hd) (fun _ _ => ⟨has, eT, by show k + _ ≤ _; omega, by show n + _ ≤ _; omega⟩)
  dsimp only [Pt.U, Pt.locs, Pt.cells, Pt.slots] at X2 hS2 hgr e1 e2 e3 r2 r3 r5 r6 r7 st'
  subst e1 e2 e3 hp
  exact Go.via st' (g U U.heap B' v ((Wk.after i0 hz hB hZ hown hS hq hF X2 hS2 r1 r2 r3 r4 r5 r6).mono hk1 hn1) r6 r4 r7)
theorem W.callI (X : Wk l Z EL y bytes maxL ret R B0 p e s m args below meth c B T h k n) {index : Nat} {count : Nat} {z : MethodName} {zi : MethodName} {C : String} {zb : ByteArray} {zl W : Nat} {zr : Option FieldType} {rm : Room} {as' : Array Value} {Qc : Option Value → Heap → (Addr → Prop) → Prop} {argsL stk : List Value} (K : Con l Z EL [] z zb zl zr rm B h as' Qc) (w1 : (Jvm.Cond.methodLink y.cls index zi).before a0 Z = true) (w2 : (Jvm.Cond.declares zi).before a0 Z = true) (w3 : (Jvm.Cond.interfaceMethod zi.cls zi.cls zi.name zi.desc).before a0 Z = true) (w4 : (Jvm.Cond.selects C zi z).before a0 Z = true) (w5 : (Jvm.Cond.instanceMethod z).before a0 Z = true) (w6 : (Jvm.Cond.publicMethod z).before a0 Z = true) (w7 : (Jvm.Cond.unhidden C zi.name zi.desc).before a0 Z = true) (w8 : (Jvm.Cond.castable C zi.cls).before a0 Z = true) (E : Exa Z h a C) (wc : (Jvm.Cond.code z zb zl zr).before a0 Z = true) (wz : (Jvm.Cond.initialized z.cls).before a0 Z = true) (hy : zi.cls ≠ "java/lang/invoke/MethodHandle" ∧ zi.cls ≠ "java/lang/invoke/VarHandle") (hf : rm.frames + 1 ≤ R.frames) (hl : W + (zl + 11) + rm.locals ≤ R.locals) (hsize : ls.size = maxL)
    (hlen : ∀ sig, parseMethodDescriptor zi.desc = some sig → argsL.length = sig.parameters.length) (has : (.ref a :: argsL).toArray = as') (hstk : stk = argsL.reverse ++ .ref a :: st) (hW : (st.map fun v => v.category).sum ≤ W) (hd : decode bytes pc = .ok (.invokeinterface index count, 5)) (hp : pc + 5 = pc') {k' n' : Nat} (hk1 : k + rm.cells ≤ k') (hn1 : n + rm.slots ≤ n') (hk2 : k' ≤ R.cells) (hn2 : n' ≤ R.slots)
    (g : ∀ T' h' B' v, Wk l Z EL y bytes maxL ret R B0 p e s m args below meth c B' T' h' k' n' → h.size ≤ h'.size → (∀ x, B' x → B x ∨ h.size ≤ x) → Qc v h' B' → Go l Z EL R B0 Q p e s m below T' pc' ls (v.toList ++ st)) : Go l Z EL R B0 Q p e s m below T pc ls stk := by
  obtain ⟨i0, hE, hz, hB, V, locs, q0, X1, eT, hZ, hown, hS, hq, hF, hC, hK⟩ := X
  obtain ⟨a1, hEL⟩ := i0.2.2.2.2.2.2
  obtain ⟨cB, kB, j1, j2, j3⟩ := isOf (s := s.setVm V) hZ eT E
  obtain ⟨v, vm₁, ⟨U, Lu, ku, nu⟩, hWv, X2, hS2, hgr, ⟨L, B', e1, e2, e3, r1, r2, r3, r4, r5, r6, r7⟩, st'⟩ := X1.interfaceBackS i0.1 (xi := zi) (y := z) hown (mv (s := s.setVm V) hZ w1) (mv (s := s.setVm V) hZ w2) (mv (s := s.setVm V) hZ w3 (by simp [Cond.onTables, Cond.keepsFace, Cond.keeps, Cond.steady, Cond.faceAtom, hy.1, hy.2])) (mv (s := s.setVm V) hZ w4) (mv (s := s.setVm V) hZ w5) (mv (s := s.setVm V) hZ w6) (mv (s := s.setVm V) hZ w7) (mv (s := s.setVm V) hZ w8) hy (BackS.con K hZ wc wz hf hl hEL hC hK) j1 j2 j3 (g := mkF m pc ls stk) rfl (hsize.trans i0.2.2.1.symm) (Steps.refl _) (argsL := argsL) (rest := st) hlen hstk (by show 2 * 0 + _ ≤ _; omega) (i0.2.1 ▸ hd) (fun _ _ => ⟨has, eT, by show k + _ ≤ _; omega, by show n + _ ≤ _; omega⟩)
  dsimp only [Pt.U, Pt.locs, Pt.cells, Pt.slots] at X2 hS2 hgr e1 e2 e3 r2 r3 r5 r6 r7 st'
  subst e1 e2 e3 hp
  exact Go.via st' (g U U.heap B' v ((Wk.after i0 hz hB hZ hown hS hq hF X2 hS2 r1 r2 r3 r4 r5 r6).mono hk1 hn1) r6 r4 r7)
theorem W.callN (X : Wk l Z EL y bytes maxL ret R B0 p e s m args below meth c B T h k n) {index : Nat} {z : MethodName} {zb : ByteArray} {zl W : Nat} {rm : Room} {as' : Array Value} {Qc : Option Value → Heap → (Addr → Prop) → Prop} {argsL stk : List Value} (K : Con l Z EL [] z zb zl none rm B h as' Qc) (hn : z.name = "<init>") (w1 : (Jvm.Cond.methodLink y.cls index z).before a0 Z = true) (w2 : (Jvm.Cond.instanceMethod z).before a0 Z = true) (wc : (Jvm.Cond.code z zb zl none).before a0 Z = true) (wz : (Jvm.Cond.initialized z.cls).before a0 Z = true) (hy : z.cls ≠ "java/lang/invoke/MethodHandle" ∧ z.cls ≠ "java/lang/invoke/VarHandle") (hf : rm.frames + 1 ≤ R.frames) (hl : W + (zl + 11) + rm.locals ≤ R.locals) (hsize : ls.size = maxL)
    (hlen : ∀ sig, parseMethodDescriptor z.desc = some sig → argsL.length = sig.parameters.length) (has : (.ref a :: argsL).toArray = as') (hstk : stk = argsL.reverse ++ .ref a :: st) (hW : (st.map fun v => v.category).sum ≤ W) (hd : decode bytes pc = .ok (.invokespecial index, 3)) (hp : pc + 3 = pc') {k' n' : Nat} (hk1 : k + rm.cells ≤ k') (hn1 : n + rm.slots ≤ n') (hk2 : k' ≤ R.cells) (hn2 : n' ≤ R.slots)
    (g : ∀ T' h' B' v, Wk l Z EL y bytes maxL ret R B0 p e s m args below meth c B' T' h' k' n' → h.size ≤ h'.size → (∀ x, B' x → B x ∨ h.size ≤ x) → Qc v h' B' → Go l Z EL R B0 Q p e s m below T' pc' ls (v.toList ++ st)) : Go l Z EL R B0 Q p e s m below T pc ls stk := by
  obtain ⟨i0, hE, hz, hB, V, locs, q0, X1, eT, hZ, hown, hS, hq, hF, hC, hK⟩ := X
  obtain ⟨a1, hEL⟩ := i0.2.2.2.2.2.2
  obtain ⟨v, vm₁, ⟨U, Lu, ku, nu⟩, hWv, X2, hS2, hgr, ⟨L, B', e1, e2, e3, r1, r2, r3, r4, r5, r6, r7⟩, st'⟩ := X1.specialBackS i0.1 (y := z) hn hown (mv (s := s.setVm V) hZ w1) (mv (s := s.setVm V) hZ w2) (mv (s := s.setVm V) hZ wc) hy (BackS.con K hZ wc wz hf hl hEL hC hK) (g := mkF m pc ls stk) rfl (hsize.trans i0.2.2.1.symm) (Steps.refl _) (a := a) (argsL := argsL) (rest := st) hlen hstk (by show 2 * 0 + _ ≤ _; omega) (i0.2.1 ▸ hd) (fun _ _ => ⟨has, eT, by show k + _ ≤ _; omega, by show n + _ ≤ _; omega⟩)
  dsimp only [Pt.U, Pt.locs, Pt.cells, Pt.slots] at X2 hS2 hgr e1 e2 e3 r2 r3 r5 r6 r7 st'
  subst e1 e2 e3 hp
  exact Go.via st' (g U U.heap B' v ((Wk.after i0 hz hB hZ hown hS hq hF X2 hS2 r1 r2 r3 r4 r5 r6).mono hk1 hn1) r6 r4 r7)
theorem W.callU (X : Wk l Z EL y bytes maxL ret R B0 p e s m args below meth c B T h k n) {index : Nat} {z : MethodName} {zi : MethodName} {C : String} {owner : String} {zb : ByteArray} {zl W : Nat} {zr : Option FieldType} {rm : Room} {as' : Array Value} {Qc : Option Value → Heap → (Addr → Prop) → Prop} {argsL stk : List Value} (K : Con l Z EL [] z zb zl zr rm B h as' Qc) (w1 : (Jvm.Cond.methodLink y.cls index zi).before a0 Z = true) (w2 : (Jvm.Cond.sameMethod zi.cls owner zi.name zi.desc).before a0 Z = true) (w3 : (Jvm.Cond.declares ⟨owner, zi.name, zi.desc⟩).before a0 Z = true) (ho : owner ≠ "java/lang/invoke/MethodHandle" ∧ owner ≠ "java/lang/invoke/VarHandle") (w4 : (Jvm.Cond.selects C zi z).before a0 Z = true) (w5 : (Jvm.Cond.instanceMethod z).before a0 Z = true) (E : Exa Z h a C) (wc : (Jvm.Cond.code z zb zl zr).before a0 Z = true) (wz : (Jvm.Cond.initialized z.cls).before a0 Z = true)  (hf : rm.frames + 1 ≤ R.frames) (hl : W + (zl + 11) + rm.locals ≤ R.locals) (hsize : ls.size = maxL)
    (hlen : ∀ sig, parseMethodDescriptor zi.desc = some sig → argsL.length = sig.parameters.length) (has : (.ref a :: argsL).toArray = as') (hstk : stk = argsL.reverse ++ .ref a :: st) (hW : (st.map fun v => v.category).sum ≤ W) (hd : decode bytes pc = .ok (.invokevirtual index, 3)) (hp : pc + 3 = pc') {k' n' : Nat} (hk1 : k + rm.cells ≤ k') (hn1 : n + rm.slots ≤ n') (hk2 : k' ≤ R.cells) (hn2 : n' ≤ R.slots)
    (g : ∀ T' h' B' v, Wk l Z EL y bytes maxL ret R B0 p e s m args below meth c B' T' h' k' n' → h.size ≤ h'.size → (∀ x, B' x → B x ∨ h.size ≤ x) → Qc v h' B' → Go l Z EL R B0 Q p e s m below T' pc' ls (v.toList ++ st)) : Go l Z EL R B0 Q p e s m below T pc ls stk := by
  obtain ⟨i0, hE, hz, hB, V, locs, q0, X1, eT, hZ, hown, hS, hq, hF, hC, hK⟩ := X
  obtain ⟨a1, hEL⟩ := i0.2.2.2.2.2.2
  obtain ⟨cB, kB, j1, j2, j3⟩ := isOf (s := s.setVm V) hZ eT E
  obtain ⟨v, vm₁, ⟨U, Lu, ku, nu⟩, hWv, X2, hS2, hgr, ⟨L, B', e1, e2, e3, r1, r2, r3, r4, r5, r6, r7⟩, st'⟩ := X1.virtualBackUpS i0.1 (x := zi) (y := z) (owner := owner) hown (mv (s := s.setVm V) hZ w1) (mv (s := s.setVm V) hZ w2) (mv (s := s.setVm V) hZ w3) ho (mv (s := s.setVm V) hZ w4) (mv (s := s.setVm V) hZ w5) (BackS.con K hZ wc wz hf hl hEL hC hK) j1 j3 (g := mkF m pc ls stk) rfl (hsize.trans i0.2.2.1.symm) (Steps.refl _) (argsL := argsL) (rest := st) hlen hstk (by show 2 * 0 + _ ≤ _; omega) (i0.2.1 ▸ hd) (fun _ _ => ⟨has, eT, by show k + _ ≤ _; omega, by show n + _ ≤ _; omega⟩)
  dsimp only [Pt.U, Pt.locs, Pt.cells, Pt.slots] at X2 hS2 hgr e1 e2 e3 r2 r3 r5 r6 r7 st'
  subst e1 e2 e3 hp
  exact Go.via st' (g U U.heap B' v ((Wk.after i0 hz hB hZ hown hS hq hF X2 hS2 r1 r2 r3 r4 r5 r6).mono hk1 hn1) r6 r4 r7)
theorem privAt {s : State} {z : MethodName} (hZ : Z.Warmed39 s.vm) (w : (Jvm.Cond.privateMethod z).before a0 Z = true) : s.PrivateAt z := Cond.privateMethod_at (mvP (args := #[]) hZ w)
theorem W.callP (X : Wk l Z EL y bytes maxL ret R B0 p e s m args below meth c B T h k n) {index : Nat} {z : MethodName} {C : String} {zb : ByteArray} {zl W : Nat} {zr : Option FieldType} {rm : Room} {as' : Array Value} {Qc : Option Value → Heap → (Addr → Prop) → Prop} {argsL stk : List Value} (K : Con l Z EL [] z zb zl zr rm B h as' Qc) (w1 : (Jvm.Cond.methodLink y.cls index z).before a0 Z = true) (w2 : (Jvm.Cond.instanceMethod z).before a0 Z = true) (w3 : NotFace Z z) (w4 : (Jvm.Cond.privateMethod z).before a0 Z = true) (E : Exa Z h a C) (wc : (Jvm.Cond.code z zb zl zr).before a0 Z = true) (wz : (Jvm.Cond.initialized z.cls).before a0 Z = true) (hy : z.cls ≠ "java/lang/invoke/MethodHandle" ∧ z.cls ≠ "java/lang/invoke/VarHandle") (hf : rm.frames + 1 ≤ R.frames) (hl : W + (zl + 11) + rm.locals ≤ R.locals) (hsize : ls.size = maxL)
    (hlen : ∀ sig, parseMethodDescriptor z.desc = some sig → argsL.length = sig.parameters.length) (has : (.ref a :: argsL).toArray = as') (hstk : stk = argsL.reverse ++ .ref a :: st) (hW : (st.map fun v => v.category).sum ≤ W) (hd : decode bytes pc = .ok (.invokevirtual index, 3)) (hp : pc + 3 = pc') {k' n' : Nat} (hk1 : k + rm.cells ≤ k') (hn1 : n + rm.slots ≤ n') (hk2 : k' ≤ R.cells) (hn2 : n' ≤ R.slots)
    (g : ∀ T' h' B' v, Wk l Z EL y bytes maxL ret R B0 p e s m args below meth c B' T' h' k' n' → h.size ≤ h'.size → (∀ x, B' x → B x ∨ h.size ≤ x) → Qc v h' B' → Go l Z EL R B0 Q p e s m below T' pc' ls (v.toList ++ st)) : Go l Z EL R B0 Q p e s m below T pc ls stk := by
  obtain ⟨i0, hE, hz, hB, V, locs, q0, X1, eT, hZ, hown, hS, hq, hF, hC, hK⟩ := X
  obtain ⟨a1, hEL⟩ := i0.2.2.2.2.2.2
  have w3' : NotFace (s.setVm V) z := fun r0 h0 => by
    have h0' : (Z.setVm V).methodNamed? z = some r0 := h0
    rw [State.methodNamed?_setVm hZ.alike] at h0'
    obtain ⟨kr, q1, q2⟩ := w3 r0 h0'
    obtain ⟨k2, q3, q4⟩ := hZ.alike.2.2 _ _ q1
    exact ⟨k2, q3, by rw [q4]; exact q2⟩
  obtain ⟨cellP, hcP, hobj⟩ := Exa.cell E
  have hcell : T.heap[a]? = some cellP := by rw [eT]; exact hcP
  obtain ⟨mkP, methP, hnP, -⟩ := Cond.instanceMethod_spec (mv (args := args) (s := s.setVm V) hZ w2)
  obtain ⟨kP, hkP, hkPi⟩ := w3' mkP hnP
  have hsel : (Jvm.Cond.selects z.cls z z).before args (s.setVm V) = true := Jvm.Stand.selects_self_of_private (findClass_of_methodNamed hnP) hkP hkPi (privAt (s := s.setVm V) hZ w4) (mv (s := s.setVm V) hZ w2) hy
  obtain ⟨v, vm₁, ⟨U, Lu, ku, nu⟩, hWv, X2, hS2, hgr, ⟨L, B', e1, e2, e3, r1, r2, r3, r4, r5, r6, r7⟩, st'⟩ := X1.privateBackS i0.1 (y := z) hown (mv (s := s.setVm V) hZ w1) (mv (s := s.setVm V) hZ w2) hsel (privAt (s := s.setVm V) hZ w4) (mv (s := s.setVm V) hZ wc) hy (BackS.con K hZ wc wz hf hl hEL hC hK) (g := mkF m pc ls stk) rfl (hsize.trans i0.2.2.1.symm) (Steps.refl _) hcell hobj (argsL := argsL) (rest := st) hlen hstk (by show 2 * 0 + _ ≤ _; omega) (i0.2.1 ▸ hd) (fun _ _ => ⟨has, eT, by show k + _ ≤ _; omega, by show n + _ ≤ _; omega⟩)
  dsimp only [Pt.U, Pt.locs, Pt.cells, Pt.slots] at X2 hS2 hgr e1 e2 e3 r2 r3 r5 r6 r7 st'
  subst e1 e2 e3 hp
  exact Go.via st' (g U U.heap B' v ((Wk.after i0 hz hB hZ hown hS hq hF X2 hS2 r1 r2 r3 r4 r5 r6).mono hk1 hn1) r6 r4 r7)
theorem W.callX (X : Wk l Z EL y bytes maxL ret R B0 p e s m args below meth c B T h k n) {index : Nat} {z : MethodName} {C : String} {zb : ByteArray} {zl W : Nat} {zr : Option FieldType} {rm : Room} {as' : Array Value} {Qc : Option Value → Heap → (Addr → Prop) → Prop} {argsL stk : List Value} (K : Con l Z EL [] z zb zl zr rm B h as' Qc) (w1 : (Jvm.Cond.methodLink y.cls index z).before a0 Z = true) (w2 : (Jvm.Cond.sameMethod z.cls z.cls z.name z.desc).before a0 Z = true) (w3 : (Jvm.Cond.instanceMethod z).before a0 Z = true) (w4 : (Jvm.Cond.superclass y.cls z.cls).before a0 Z = true) (hn : z.name ≠ "<init>") (E : Exa Z h a C) (wc : (Jvm.Cond.code z zb zl zr).before a0 Z = true) (wz : (Jvm.Cond.initialized z.cls).before a0 Z = true)  (hf : rm.frames + 1 ≤ R.frames) (hl : W + (zl + 11) + rm.locals ≤ R.locals) (hsize : ls.size = maxL)
    (hlen : ∀ sig, parseMethodDescriptor z.desc = some sig → argsL.length = sig.parameters.length) (has : (.ref a :: argsL).toArray = as') (hstk : stk = argsL.reverse ++ .ref a :: st) (hW : (st.map fun v => v.category).sum ≤ W) (hd : decode bytes pc = .ok (.invokespecial index, 3)) (hp : pc + 3 = pc') {k' n' : Nat} (hk1 : k + rm.cells ≤ k') (hn1 : n + rm.slots ≤ n') (hk2 : k' ≤ R.cells) (hn2 : n' ≤ R.slots)
    (g : ∀ T' h' B' v, Wk l Z EL y bytes maxL ret R B0 p e s m args below meth c B' T' h' k' n' → h.size ≤ h'.size → (∀ x, B' x → B x ∨ h.size ≤ x) → Qc v h' B' → Go l Z EL R B0 Q p e s m below T' pc' ls (v.toList ++ st)) : Go l Z EL R B0 Q p e s m below T pc ls stk := by
  obtain ⟨i0, hE, hz, hB, V, locs, q0, X1, eT, hZ, hown, hS, hq, hF, hC, hK⟩ := X
  obtain ⟨a1, hEL⟩ := i0.2.2.2.2.2.2
  obtain ⟨v, vm₁, ⟨U, Lu, ku, nu⟩, hWv, X2, hS2, hgr, ⟨L, B', e1, e2, e3, r1, r2, r3, r4, r5, r6, r7⟩, st'⟩ := Jvm.RoadKit.superBackS X1 i0.1 hZ hown w1 w2 w3 w4 hn (BackS.con K hZ wc wz hf hl hEL hC hK) eT (Ins.self E) (g := mkF m pc ls stk) rfl (hsize.trans i0.2.2.1.symm) wc (argsL := argsL) (rest := st) hlen hstk (by show 2 * 0 + _ ≤ _; omega) (i0.2.1 ▸ hd) (fun _ _ => ⟨has, eT, by show k + _ ≤ _; omega, by show n + _ ≤ _; omega⟩)
  dsimp only [Pt.U, Pt.locs, Pt.cells, Pt.slots] at X2 hS2 hgr e1 e2 e3 r2 r3 r5 r6 r7 st'
  subst e1 e2 e3 hp
  exact Go.via st' (g U U.heap B' v ((Wk.after i0 hz hB hZ hown hS hq hF X2 hS2 r1 r2 r3 r4 r5 r6).mono hk1 hn1) r6 r4 r7)
theorem kp {xv : Value} (g : ∀ T', Wk l Z EL y bytes maxL ret R B0 p e s m args below meth c B T' h k n → Go l Z EL R B0 Q p e s m below T' pc' ls (xv :: st)) : ∀ T' h' B' v, Wk l Z EL y bytes maxL ret R B0 p e s m args below meth c B' T' h' k n → h.size ≤ h'.size → (∀ x, B' x → B x ∨ h.size ≤ x) → (v = some xv ∧ h' = h ∧ B' = B) → Go l Z EL R B0 Q p e s m below T' pc' ls (v.toList ++ st) := by
  rintro T' h' B' v X - - ⟨rfl, rfl, rfl⟩; exact g T' X
theorem kpv (g : ∀ T', Wk l Z EL y bytes maxL ret R B0 p e s m args below meth c B T' h k n → Go l Z EL R B0 Q p e s m below T' pc' ls st) : ∀ T' h' B' v, Wk l Z EL y bytes maxL ret R B0 p e s m args below meth c B' T' h' k n → h.size ≤ h'.size → (∀ x, B' x → B x ∨ h.size ≤ x) → (v = none ∧ h' = h ∧ B' = B) → Go l Z EL R B0 Q p e s m below T' pc' ls (v.toList ++ st) := by
  rintro T' h' B' v X - - ⟨rfl, rfl, rfl⟩; exact g T' X
theorem kr {Qc : Value → Heap → Prop} (g : ∀ T' h' x, Wk l Z EL y bytes maxL ret R B0 p e s m args below meth c B T' h' k n → h.size ≤ h'.size → Qc x h' → Go l Z EL R B0 Q p e s m below T' pc' ls (x :: st)) : ∀ T' h' B' v, Wk l Z EL y bytes maxL ret R B0 p e s m args below meth c B' T' h' k n → h.size ≤ h'.size → (∀ x, B' x → B x ∨ h.size ≤ x) → (∃ x, v = some x ∧ B' = B ∧ Qc x h') → Go l Z EL R B0 Q p e s m below T' pc' ls (v.toList ++ st) := by
  rintro T' h' B' v X z - ⟨x, rfl, rfl, q⟩; exact g T' h' x X z q
theorem kv {Qc : Heap → Prop} (g : ∀ T' h', Wk l Z EL y bytes maxL ret R B0 p e s m args below meth c B T' h' k n → h.size ≤ h'.size → Qc h' → Go l Z EL R B0 Q p e s m below T' pc' ls st) : ∀ T' h' B' v, Wk l Z EL y bytes maxL ret R B0 p e s m args below meth c B' T' h' k n → h.size ≤ h'.size → (∀ x, B' x → B x ∨ h.size ≤ x) → (v = none ∧ B' = B ∧ Qc h') → Go l Z EL R B0 Q p e s m below T' pc' ls (v.toList ++ st) := by
  rintro T' h' B' v X z - ⟨rfl, rfl, q⟩; exact g T' h' X z q
theorem kri {Qc : Value → Heap → (Addr → Prop) → Prop} (g : ∀ T' h' B' x, Wk l Z EL y bytes maxL ret R B0 p e s m args below meth c B' T' h' k n → h.size ≤ h'.size → (∀ x, B' x → B x ∨ h.size ≤ x) → Qc x h' B' → Go l Z EL R B0 Q p e s m below T' pc' ls (x :: st)) : ∀ T' h' B' v, Wk l Z EL y bytes maxL ret R B0 p e s m args below meth c B' T' h' k n → h.size ≤ h'.size → (∀ x, B' x → B x ∨ h.size ≤ x) → (∃ x, v = some x ∧ Qc x h' B') → Go l Z EL R B0 Q p e s m below T' pc' ls (v.toList ++ st) := by
  rintro T' h' B' v X z zb ⟨x, rfl, q⟩; exact g T' h' B' x X z zb q
theorem kvi {Qc : Heap → (Addr → Prop) → Prop} (g : ∀ T' h' B', Wk l Z EL y bytes maxL ret R B0 p e s m args below meth c B' T' h' k n → h.size ≤ h'.size → (∀ x, B' x → B x ∨ h.size ≤ x) → Qc h' B' → Go l Z EL R B0 Q p e s m below T' pc' ls st) : ∀ T' h' B' v, Wk l Z EL y bytes maxL ret R B0 p e s m args below meth c B' T' h' k n → h.size ≤ h'.size → (∀ x, B' x → B x ∨ h.size ≤ x) → (v = none ∧ Qc h' B') → Go l Z EL R B0 Q p e s m below T' pc' ls (v.toList ++ st) := by
  rintro T' h' B' v X z zb ⟨rfl, q⟩; exact g T' h' B' X z zb q
/-! System.arraycopy -/
theorem range_getD {vs : List Value} {i len : Nat} (d : Value) (hl : i + len ≤ vs.length) : (List.range len).map (fun q => vs.getD (i + q) d) = (vs.drop i).take len := by
  apply List.ext_getElem?
  intro j
  by_cases hj : j < len
  · rw [List.getElem?_map, List.getElem?_range hj, List.getElem?_take_of_lt hj, List.getElem?_drop]
    simp only [Option.map_some, List.getD_eq_getElem?_getD]
    rw [List.getElem?_eq_getElem (by omega : i + j < vs.length)]; rfl
  · rw [List.getElem?_eq_none (by simpa using hj), List.getElem?_eq_none (by simp; omega)]
theorem W.acopy (X : Wk l Z EL y bytes maxL ret R B0 p e s m args below meth c B T h k n) {index W : Nat} {sp dp nn : Int32} {i j len : Nat} {us : List Value} (A : Ar Z h a ty vs) (D : Ar Z h b ty us) (w1 : (Jvm.Cond.methodLink y.cls index Jvm.Stand.acN).before a0 Z = true) (w2 : (Jvm.Cond.native Jvm.Stand.acN).before a0 Z = true) (w3 : (Jvm.Cond.static Jvm.Stand.acN).before a0 Z = true) (w4 : (Jvm.Cond.initialized "java/lang/System").before a0 Z = true) (hty : refKind ty = false)
    (h1 : i.toInt32 = sp) (h2 : j.toInt32 = dp) (h3 : len.toInt32 = nn) (h4 : i + len ≤ vs.length) (h5 : j + len ≤ us.length) (ha : Z.heap.size ≤ b) (hnb : ¬ B b) (hsize : ls.size = maxL) (hf : 1 ≤ R.frames) (hW : (st.map fun v => v.category).sum ≤ W) (hlo : W + (nativeFrameWords "java/lang/System" "arraycopy" 5 + 11) ≤ R.locals) (hd : decode bytes pc = .ok (.invokestatic index, 3)) (hp : pc + 3 = pc')
    (g : ∀ T' h', Wk l Z EL y bytes maxL ret R B0 p e s m args below meth c B T' h' k n → Keep h h' [b] → Ar Z h' b ty (us.take j ++ (vs.drop i).take len ++ us.drop (j + len)) → Go l Z EL R B0 Q p e s m below T' pc' ls st) : Go l Z EL R B0 Q p e s m below T pc ls (.int nn :: .int dp :: .ref b :: .int sp :: .ref a :: st) := by
  obtain ⟨i0, hE, hz, hB, V, locs, q0, X1, eT, hZ, hown, hS, hq, hF, hC, hK⟩ := X
  have hv := A.len_lt
  have hu := D.len_lt
  subst h1 h2 h3 hp
  obtain ⟨n1, e1, -⟩ := len32 (show i < 2 ^ 31 by omega)
  obtain ⟨n2, e2, -⟩ := len32 (show j < 2 ^ 31 by omega)
  obtain ⟨n3, e3, -⟩ := len32 (show len < 2 ^ 31 by omega)
  obtain ⟨n4, e4, -⟩ := len32 hv
  obtain ⟨n5, e5, -⟩ := len32 hu
  obtain ⟨ka, A'⟩ := A.toArv rfl (.int 0)
  obtain ⟨kb, D'⟩ := D.toArv rfl (.int 0)
  obtain ⟨T', h', L, X', e', N', K', R', st'⟩ := RoadKit.cpA X1 i0.1 hZ hown w1 w2 w3 w4 eT A' D' (us := (List.range len).map fun q => vs.getD (i + q) (.int 0)) (Or.inl ⟨rfl, hty⟩) n1 n2 n3 (by rw [e1, e3, e4]; exact h4) (by rw [e2, e3, e5]; exact h5) (by rw [e1, e3]) (by rw [e2, e3]; exact h5) hF ha (g := mkF m pc ls (.int len.toInt32 :: .int j.toInt32 :: .ref b :: .int i.toInt32 :: .ref a :: st)) rfl (hsize.trans i0.2.2.1.symm) rfl (i0.2.1 ▸ hd) hf (W := W) (by show 2 * 0 + _ ≤ _; omega) hlo
  rw [range_getD _ h4, e2, e3] at R'
  have S : ∀ x ∈ [b], Safe Z EL V h x := fun x hx => by cases List.mem_singleton.mp hx; exact fun r => hnb (hK b r)
  have hO := (Old.keep (n0 := Z.heap.size) ⟨rfl, hE.1⟩ K' (allS ha all0)).2
  exact Go.step st' (g T' h' ⟨i0, ⟨hO, fun x r => Nat.lt_of_lt_of_le (hE.2 x r) K'.1⟩, Nat.le_trans hz K'.1, hB, V, L, q0, X', e', hZ, hown, hS, Nat.le_trans hq K'.1, N', hC.keep K' S, fun x r => hK x ((hC.keepStep K' S).2 x r)⟩ K' (Ar.ofArv R' (by rw [e5]; simp; omega)))
/-! the end -/
theorem W.fin (X : Wk l Z EL y bytes maxL ret R B0 p e s m args below meth c B T h k n) {v : Option Value} (hv : ret = none → v = none) (hk : k ≤ R.cells) (hn : n ≤ R.slots) (q : Q v h B) (run : ∀ fs, (∀ (f : JFrame) (acts : List Action), f.method = m → f.locked = none → f.entered = [] → (doReturn e (T.setTop f) acts v).1 = T.setFrames fs) → Steps p.tables e below (T.setTop (mkF m pc ls st)) (T.setFrames fs)) : Go l Z EL R B0 Q p e s m below T pc ls st := by
  obtain ⟨i0, hE, hz, hB, V, locs, q0, X1, eT, hZ, hown, hS, hq, hF, hC, hK⟩ := X
  obtain ⟨a1, hEL⟩ := i0.2.2.2.2.2.2
  obtain ⟨fs, hr, hrun, hend, hW⟩ := X1.leaveW hS (by rw [eT]; exact hq) (v := v) (fun z => hv (i0.2.2.2.1.symm.trans z)) i0.2.2.2.2.1
  have eh : (T.setFrames fs).heap = h := eT
  have q1 := CHv.at X1 hZ hEL hC
  refine ⟨T.setFrames fs, _, run fs hr, hrun, hend, v, locs, B, rfl, hF, by rw [eh]; exact q1.1, fun x r => ?_, hB, by rw [eh]; exact hE, by rw [eh]; exact hz, by rw [eh]; exact q, hW.1, hW.2.1, hW.2.2.1, hW.2.2.2.mono hk hn⟩
  rw [eh] at r
  rcases q1.2.2 x r with z | z
  · exact hK x z
  · obtain ⟨cell, q2⟩ := r.there
    exact absurd (Array.getElem?_eq_some_iff.mp q2).1 (Nat.not_lt.mpr z)
theorem W.ireturn (X : Wk l Z EL y bytes maxL ret R B0 p e s m args below meth c B T h k n) {t : FieldType} {x : Int32} (hd : decode bytes pc = .ok (.ireturn, 1)) (hret : ret = some t) (ht : t = .int ∨ t = .boolean ∨ t = .byte ∨ t = .char ∨ t = .short) (hnw : narrow t (.int x) = .int x) (hk : k ≤ R.cells) (hn : n ≤ R.slots) (q : Q (some (.int x)) h B) : Go l Z EL R B0 Q p e s m below T pc ls (.int x :: st) := by
  have X0 := X
  obtain ⟨i0, hE, hz, hB, V, locs, q0, X1, eT, hZ, hown, hS, hq, hF, hC, hK⟩ := X
  exact W.fin X0 (fun z => by rw [hret] at z; cases z) hk hn q fun fs hl => RoadKit.retOut (i := .ireturn) X1 i0.1 (i0.2.2.2.1.trans hret) hnw (Or.inl ⟨rfl, ht, x, rfl⟩) (i0.2.1 ▸ hd) hl
theorem W.lreturn (X : Wk l Z EL y bytes maxL ret R B0 p e s m args below meth c B T h k n) {x : Int64} (hd : decode bytes pc = .ok (.lreturn, 1)) (hret : ret = some .long) (hk : k ≤ R.cells) (hn : n ≤ R.slots) (q : Q (some (.long x)) h B) : Go l Z EL R B0 Q p e s m below T pc ls (.long x :: st) := by
  have X0 := X
  obtain ⟨i0, hE, hz, hB, V, locs, q0, X1, eT, hZ, hown, hS, hq, hF, hC, hK⟩ := X
  exact W.fin X0 (fun z => by rw [hret] at z; cases z) hk hn q fun fs hl => RoadKit.retOut (i := .lreturn) X1 i0.1 (i0.2.2.2.1.trans hret) rfl (Or.inr (Or.inl ⟨rfl, rfl, x, rfl⟩)) (i0.2.1 ▸ hd) hl
theorem W.areturn (X : Wk l Z EL y bytes maxL ret R B0 p e s m args below meth c B T h k n) {t : FieldType} {v : Value} (hd : decode bytes pc = .ok (.areturn, 1)) (hret : ret = some t) (ht : t.isReference = true) (hv : v.isRef = true) (hnw : narrow t v = v) (hk : k ≤ R.cells) (hn : n ≤ R.slots) (q : Q (some v) h B) : Go l Z EL R B0 Q p e s m below T pc ls (v :: st) := by
  have X0 := X
  obtain ⟨i0, hE, hz, hB, V, locs, q0, X1, eT, hZ, hown, hS, hq, hF, hC, hK⟩ := X
  exact W.fin X0 (fun z => by rw [hret] at z; cases z) hk hn q fun fs hl => RoadKit.retOut (i := .areturn) X1 i0.1 (i0.2.2.2.1.trans hret) hnw (Or.inr (Or.inr (Or.inr (Or.inr ⟨rfl, ht, hv⟩)))) (i0.2.1 ▸ hd) hl
theorem W.vreturn (X : Wk l Z EL y bytes maxL ret R B0 p e s m args below meth c B T h k n) (hd : decode bytes pc = .ok (.return_, 1)) (hret : ret = none) (hk : k ≤ R.cells) (hn : n ≤ R.slots) (q : Q none h B) : Go l Z EL R B0 Q p e s m below T pc ls [] := by
  have X0 := X
  obtain ⟨i0, hE, hz, hB, V, locs, q0, X1, eT, hZ, hown, hS, hq, hF, hC, hK⟩ := X
  exact W.fin X0 (fun _ => rfl) hk hn q fun fs hl => X1.returnOut i0.1 (i0.2.2.2.1.trans hret) (i0.2.1 ▸ hd) hl
/-! the entry -/
theorem Con.intro {wl : List Jvm.Cond} {rm : Room} {as' : Array Value} (hpl : plainFor y = true) (hEW : EW Z a0 EL) (hE : En Z B h) (hef : ∀ m, entryFrame m as' maxL = mkF m 0 ls [])
    (body : ∀ p e s m below meth c T, s.heap = h → Wk l Z EL y bytes maxL ret rm B p e s m as' below meth c B T h 0 0 → Go l Z EL rm B Q p e s m below T 0 ls []) : Con l Z EL wl y bytes maxL ret rm B h as' Q := by
  refine MetFree.of_bodySF hpl hisR ?_
  intro p e s m args below meth c s₁ Bd hml0 hP hK
  obtain ⟨rfl, hZ, hh, hC, hBk⟩ := hP
  have X0 : Stand p l e rm s m args below meth c s₁ [] 0 0 := Stand.of_body Bd
  have e0 : s₁.heap = h := by rw [← hh, Bd.state]; rfl
  have hg : Go l Z EL rm B Q p e s m below s₁ 0 ls [] := body p e s m below meth c s₁ hh ⟨⟨Bd.exec, Bd.bytes, hml0, Bd.returns, Bd.notSynchronized, (name_of_methodNamed Bd.named Bd.method).1, a0, hEW⟩, hE, by rw [hh]; exact Nat.le_refl _, fun x r => Or.inl r, s.vm, [], s.heap.size, X0, e0, hZ, findClass_of_methodNamed Bd.named, (State.WarmedH.refl s).since _, by rw [hh]; exact Nat.le_refl _, Fr.nil _, hC, hBk⟩
  obtain ⟨s₂, o, h1, h2, h3, v, L, B', g1, g2, g3, g4, g5, g6, g7, g8, g9⟩ := hg
  rw [hh] at g5 g7
  exact ⟨s₂, o, castTop (hef m) h1, h2, h3, v, L, B', g1, g2, g3, g4, g5, g6, g7, g8, g9⟩
/-! String constants -/
theorem W.ldcO (X : Wk l Z EL y bytes maxL ret R B0 p e s m args below meth c B T h k n) {index cap : Nat} {text : String} (hEW : EW Z a0 EL) (w : (Jvm.Cond.stringLink y.cls index text).before a0 Z = true) (wS : ∀ a ∈ Bundle.stringAtoms, a.before a0 Z = true) (hd : decode bytes pc = .ok (.ldc index, 2)) (hcap : 4 * text.toList.length ≤ cap) (hbig : cap ≤ 536870912) (hp : pc + 2 = pc') {k' n' : Nat} (hk : k + 2 ≤ k') (hn : n + (cap + 4) ≤ n') (hk' : k' ≤ R.cells) (hn' : n' ≤ R.slots)
    (g : ∀ T' h' B' a, Wk l Z EL y bytes maxL ret R B0 p e s m args below meth c B' T' h' k' n' → Keep h h' [] → (∀ x, B' x → B x ∨ h.size ≤ x) → Go l Z EL R B0 Q p e s m below T' pc' ls (.ref a :: st)) : Go l Z EL R B0 Q p e s m below T pc ls st := by
  obtain ⟨i0, hE, hz, hB, V, locs, q0, X1, eT, hZ, hown, hS, hq, hF, hC, hK⟩ := X
  obtain ⟨a1, hEL⟩ := i0.2.2.2.2.2.2
  obtain ⟨a, T', h', k1, X', e', E, hS', hk1, hZ', hown', hr, -, st'⟩ := ldcOH X1 i0.1 hZ hown w wS eT hS hq hEW hC (g := mkF m pc ls st) rfl (i0.2.1 ▸ hd) hcap hbig (Nat.le_trans hk hk') (Nat.le_trans hn hn')
  subst hp
  let B' : Addr → Prop := fun x => B x ∨ (h.size ≤ x ∧ x < h'.size)
  have hB' : ∀ x, Bk Z EL T'.vm h' x → B' x := fun x r => (hr.2.2 x r).elim (fun z => Or.inl (hK x z)) fun z => by
    obtain ⟨cell, q⟩ := r.there
    exact Or.inr ⟨z, (Array.getElem?_eq_some_iff.mp q).1⟩
  refine Go.step st' (g T' h' B' a ⟨i0, ⟨(hE.ext E).1, fun x r => r.elim (fun z => Nat.lt_of_lt_of_le (hE.2 x z) E.1) fun z => z.2⟩, Nat.le_trans hz E.1, fun x r => r.elim (hB x) fun z => Or.inr (Nat.le_trans hz z.1), T'.vm, locs, k1, X'.mono hk hn, e', hZ', hown', hS', hk1, hF, hr.1, hB'⟩ (keepE E) (fun x r => r.imp id fun z => z.1))
theorem W.ldcR (X : Wk l Z EL y bytes maxL ret R B0 p e s m args below meth c B T h k n) {index cap : Nat} {text : String} {cs : List Int32} (hmem : (y.cls, index) ∈ EL) (w : (Jvm.Cond.stringLink y.cls index text).before a0 Z = true) (wS : ∀ a ∈ Bundle.stringAtoms, a.before a0 Z = true) (hEW : EW Z a0 EL) (ht : (∀ c ∈ text.toList, c.toNat < 256) ∧ text.toList.map (fun c => Value.int (Jvm.Lit.byteI c.toNat.toUInt16)) = by8 cs) (hlat : Lat cs) (hlen : cs.length < 2 ^ 31) (hd : decode bytes pc = .ok (.ldc index, 2)) (hcap : 4 * text.toList.length ≤ cap) (hbig : cap ≤ 536870912) (hp : pc + 2 = pc') {k' n' : Nat} (hk : k + 2 ≤ k') (hn : n + (cap + 4) ≤ n') (hk' : k' ≤ R.cells) (hn' : n' ≤ R.slots)
    (g : ∀ T' h' B' a b, Wk l Z EL y bytes maxL ret R B0 p e s m args below meth c B' T' h' k' n' → Keep h h' [] → (∀ x, B' x → B x ∨ h.size ≤ x) → Str Z h' a b cs → (∀ x, ¬ B' x → x ≠ a ∧ x ≠ b) → Go l Z EL R B0 Q p e s m below T' pc' ls (.ref a :: st)) : Go l Z EL R B0 Q p e s m below T pc ls st := by
  obtain ⟨i0, hE, hz, hB, V, locs, q0, X1, eT, hZ, hown, hS, hq, hF, hC, hK⟩ := X
  obtain ⟨q1, q2, q3⟩ := len32 hlen
  obtain ⟨a, T', h', k1, b, kb, X', e', E, hS', hk1, hZ', hown', f1, f2, f3, f4, la, lb, hr, -, hne, st'⟩ := ldcCH X1 i0.1 hZ hown w wS eT hS hq hEW hmem hC ht q1 (by rw [q2]; simp) (g := mkF m pc ls st) rfl (i0.2.1 ▸ hd) hcap hbig (Nat.le_trans hk hk') (Nat.le_trans hn hn')
  subst hp
  let B' : Addr → Prop := fun x => B x ∨ (h.size ≤ x ∧ x < h'.size)
  have hB' : ∀ x, Bk Z EL T'.vm h' x → B' x := fun x r => (hr.2.2 x r).elim (fun z => Or.inl (hK x z)) fun z => by
    obtain ⟨cell, q⟩ := r.there
    exact Or.inr ⟨z, (Array.getElem?_eq_some_iff.mp q).1⟩
  refine Go.step st' (g T' h' B' a b ⟨i0, ⟨(hE.ext E).1, fun x r => r.elim (fun z => Nat.lt_of_lt_of_le (hE.2 x z) E.1) fun z => z.2⟩, Nat.le_trans hz E.1, fun x r => r.elim (hB x) fun z => Or.inr (Nat.le_trans hz z.1), T'.vm, locs, k1, X'.mono hk hn, e', hZ', hown', hS', hk1, hF, hr.1, hB'⟩ (keepE E) (fun x r => r.imp id fun z => z.1) ⟨f1, f2, f3, Ar.ofArv f4 (by rw [q2]; simp), hlat⟩ fun x r => hne x fun z => r (hB' x z))

end Own
end Own
end Jvm.Pilot.@@N@@

namespace Jvm.Pilot.@@N@@
open Jvm Jvm.ClassFile Sem Op Lib Jvm.Free Jvm.Stand Jvm.LawKit Jvm.RoadKit Bundle Jvm.Pilot.@@N@@.Jvm.D Own Jvm.Free.XT

def Cch (Z : State) (cA : Addr) : Prop := ∃ vs, Ar Z Z.heap cA (.object "java/lang/Integer") vs ∧ vs.length = 256 ∧ ∀ i, i < 256 → ∃ b, vs[i]? = some (.ref b) ∧ Exa Z Z.heap b "java/lang/Integer"
theorem Cch.start {Z : State} {args : Array Value} {t : Term} {X : Cond} {cA : Addr} (et : ∀ idx, t.eval args Z none idx Z = some (.ref cA)) (w1 : (Jvm.Cond.arrayOf t (.object "java/lang/Integer")).value args Z none Z [] = some true) (w2 : (Jvm.Cond.eq (.length t) (.int 256)).value args Z none Z [] = some true) (w3 : (Jvm.Cond.all t (.and (.exactly (.elem t (.index 0)) "java/lang/Integer") X)).value args Z none Z [] = some true) : Cch Z cA := by
  obtain ⟨c, A⟩ := Arr.start (et []) w1
  have hl : (Term.length t).eval args Z none [] Z = some (.int 256) := eqv_i (Term.int_eval 256) w2
  have ha : Z.arrayAt? cA = some c := A.fin (Vm.Alike.refl _)
  have hs : c.slots.size < 2 ^ 31 := by
    by_cases q : c.slots.size < 2 ^ 31
    · exact q
    · have q' : ¬ c.slots.size < 2147483648 := q
      simp [Term.eval, et, ha, q'] at hl
  have e : c.slots.size.toInt32 = 256 := by
    have h := len_f (et []) ha hs
    rw [hl] at h
    injection h with h; injection h with h; exact h.symm
  have hn : c.slots.size = 256 := by
    have h := (len32 hs).2.2
    rw [e] at h
    have e2 : (256 : Int32).toInt = 256 := rfl
    omega
  have get : ∀ j : Int32, ¬ (j < 0 ∨ c.slots.size ≤ j.toNatClampNeg) → ∃ b : Addr, c.slots[j.toNatClampNeg]? = some (.ref b) ∧ Exa Z Z.heap b "java/lang/Integer" := fun j hj => by
    have nn : ¬ j < 0 := fun x => hj (Or.inl x)
    obtain ⟨u1, u2⟩ := and_e (Cond.all_elim (et []) (A.fin (Vm.Alike.refl _)) w3 j.toNatClampNeg (Nat.lt_of_not_le fun x => hj (Or.inr x)))
    obtain ⟨box, eb⟩ := exa_v u1
    exact ⟨box, (elem_f (et _) (idx_at nn) (A.fin (Vm.Alike.refl _)) nn).symm.trans eb, exa_at eb u1⟩
  have get' : ∀ i, i < 256 → ∃ b, c.slots.toList[i]? = some (.ref b) ∧ Exa Z Z.heap b "java/lang/Integer" := fun i hi => by
    have h := len32 (n := i) (by omega)
    obtain ⟨b, g1, g2⟩ := get i.toInt32 (by rw [h.2.1, hn]; rintro (q | q); exact h.1 q; omega)
    rw [h.2.1] at g1
    exact ⟨b, by rw [Array.getElem?_toList]; exact g1, g2⟩
  refine ⟨c.slots.toList, ⟨c, A, rfl, by simpa using hs, fun v hv => ?_⟩, by simpa using hn, get'⟩
  obtain ⟨i, hi, e⟩ := List.getElem_of_mem hv
  have hi' : i < 256 := by rw [Array.length_toList, hn] at hi; exact hi
  obtain ⟨b, g1, -⟩ := get' i hi'
  rw [List.getElem?_eq_getElem hi, e] at g1
  rw [Option.some.inj g1]; rfl

def Gl (Z : State) (a0 : Array Value) (zC : Int32) (fS : Value) (cA : Addr) (e0 : Addr) (e1 : Addr) (e2 : Addr) : Prop := (∀ d ∈ tables_1, d.before a0 Z = true) ∧ EW Z a0 [] ∧ Sta Z Z.heap "java/lang/String" "COMPACT_STRINGS" "Z" (.int zC) ∧ ¬ zC = 0 ∧ Sta Z Z.heap "jdk/internal/util/Preconditions" "SIOOBE_FORMATTER" "Ljava/util/function/BiFunction;" fS ∧ fS.isRef = true ∧ Sta Z Z.heap "java/lang/Integer$IntegerCache" "high" "I" (.int (127 : Int32)) ∧ Sta Z Z.heap "java/lang/Integer$IntegerCache" "cache" "[Ljava/lang/Integer;" (.ref cA) ∧ Sta Z Z.heap "com/example/campo_grande/campogrande/SignatureAlgorithm" "SHA256" "Lcom/example/campo_grande/campogrande/SignatureAlgorithm;" (.ref e0) ∧ Sta Z Z.heap "com/example/campo_grande/campogrande/SignatureAlgorithm" "SHA1" "Lcom/example/campo_grande/campogrande/SignatureAlgorithm;" (.ref e1) ∧ Sta Z Z.heap "com/example/campo_grande/campogrande/SignatureAlgorithm" "MD5" "Lcom/example/campo_grande/campogrande/SignatureAlgorithm;" (.ref e2) ∧ Exa Z Z.heap e0 "com/example/campo_grande/campogrande/SignatureAlgorithm" ∧ Fld Z Z.heap e0 "com/example/campo_grande/campogrande/SignatureAlgorithm" "digestLength" "I" (.int (32 : Int32)) ∧ Exa Z Z.heap e1 "com/example/campo_grande/campogrande/SignatureAlgorithm" ∧ Fld Z Z.heap e1 "com/example/campo_grande/campogrande/SignatureAlgorithm" "digestLength" "I" (.int (20 : Int32)) ∧ Exa Z Z.heap e2 "com/example/campo_grande/campogrande/SignatureAlgorithm" ∧ Fld Z Z.heap e2 "com/example/campo_grande/campogrande/SignatureAlgorithm" "digestLength" "I" (.int (16 : Int32)) ∧ Cch Z cA ∧ True
theorem w0 {Z : State} {a0 : Array Value} {zC : Int32} {fS : Value} {cA : Addr} {e0 : Addr} {e1 : Addr} {e2 : Addr} (G : Gl Z a0 zC fS cA e0 e1 e2) : (Jvm.Cond.constant "com/example/campo_grande/campogrande/ContentKeyEqualsPinLaw" (30 : Nat) (2147483647 : Int32)).before a0 Z = true := G.1 _ (List.mem_of_getElem? (i := 0) rfl)
theorem w1 {Z : State} {a0 : Array Value} {zC : Int32} {fS : Value} {cA : Addr} {e0 : Addr} {e1 : Addr} {e2 : Addr} (G : Gl Z a0 zC fS cA e0 e1 e2) : (Jvm.Cond.classLink "com/example/campo_grande/campogrande/ContentKeyEqualsPinLaw" (31 : Nat) "com/example/campo_grande/campogrande/ContentKey").before a0 Z = true := G.1 _ (List.mem_of_getElem? (i := 1) rfl)
theorem w2 {Z : State} {a0 : Array Value} {zC : Int32} {fS : Value} {cA : Addr} {e0 : Addr} {e1 : Addr} {e2 : Addr} (G : Gl Z a0 zC fS cA e0 e1 e2) : (Jvm.Cond.instantiable "com/example/campo_grande/campogrande/ContentKey" (4 : Nat)).before a0 Z = true := G.1 _ (List.mem_of_getElem? (i := 2) rfl)
theorem w3 {Z : State} {a0 : Array Value} {zC : Int32} {fS : Value} {cA : Addr} {e0 : Addr} {e1 : Addr} {e2 : Addr} (G : Gl Z a0 zC fS cA e0 e1 e2) : (Jvm.Cond.initialized "com/example/campo_grande/campogrande/ContentKey").before a0 Z = true := G.1 _ (List.mem_of_getElem? (i := 3) rfl)
theorem w4 {Z : State} {a0 : Array Value} {zC : Int32} {fS : Value} {cA : Addr} {e0 : Addr} {e1 : Addr} {e2 : Addr} (G : Gl Z a0 zC fS cA e0 e1 e2) : (Jvm.Cond.methodLink "com/example/campo_grande/campogrande/ContentKeyEqualsPinLaw" (33 : Nat) ({ cls := "com/example/campo_grande/campogrande/ContentKeyEqualsPinLaw", name := "alg", desc := "(I)Lcom/example/campo_grande/campogrande/SignatureAlgorithm;" } : Jvm.MethodName)).before a0 Z = true := G.1 _ (List.mem_of_getElem? (i := 4) rfl)
theorem w5 {Z : State} {a0 : Array Value} {zC : Int32} {fS : Value} {cA : Addr} {e0 : Addr} {e1 : Addr} {e2 : Addr} (G : Gl Z a0 zC fS cA e0 e1 e2) : (Jvm.Cond.static ({ cls := "com/example/campo_grande/campogrande/ContentKeyEqualsPinLaw", name := "alg", desc := "(I)Lcom/example/campo_grande/campogrande/SignatureAlgorithm;" } : Jvm.MethodName)).before a0 Z = true := G.1 _ (List.mem_of_getElem? (i := 5) rfl)
theorem w6 {Z : State} {a0 : Array Value} {zC : Int32} {fS : Value} {cA : Addr} {e0 : Addr} {e1 : Addr} {e2 : Addr} (G : Gl Z a0 zC fS cA e0 e1 e2) : (Jvm.Cond.initialized "com/example/campo_grande/campogrande/ContentKeyEqualsPinLaw").before a0 Z = true := G.1 _ (List.mem_of_getElem? (i := 6) rfl)
theorem w7 {Z : State} {a0 : Array Value} {zC : Int32} {fS : Value} {cA : Addr} {e0 : Addr} {e1 : Addr} {e2 : Addr} (G : Gl Z a0 zC fS cA e0 e1 e2) : (Jvm.Cond.code ({ cls := "com/example/campo_grande/campogrande/ContentKeyEqualsPinLaw", name := "alg", desc := "(I)Lcom/example/campo_grande/campogrande/SignatureAlgorithm;" } : Jvm.MethodName) method_2_code (1 : Nat) (Option.some (Jvm.ClassFile.FieldType.object "com/example/campo_grande/campogrande/SignatureAlgorithm"))).before a0 Z = true := G.1 _ (List.mem_of_getElem? (i := 7) rfl)
theorem w8 {Z : State} {a0 : Array Value} {zC : Int32} {fS : Value} {cA : Addr} {e0 : Addr} {e1 : Addr} {e2 : Addr} (G : Gl Z a0 zC fS cA e0 e1 e2) : (Jvm.Cond.fieldLink "com/example/campo_grande/campogrande/ContentKeyEqualsPinLaw" (7 : Nat) "com/example/campo_grande/campogrande/SignatureAlgorithm" "SHA256" "Lcom/example/campo_grande/campogrande/SignatureAlgorithm;").before a0 Z = true := G.1 _ (List.mem_of_getElem? (i := 8) rfl)
theorem w9 {Z : State} {a0 : Array Value} {zC : Int32} {fS : Value} {cA : Addr} {e0 : Addr} {e1 : Addr} {e2 : Addr} (G : Gl Z a0 zC fS cA e0 e1 e2) : (Jvm.Cond.initialized "com/example/campo_grande/campogrande/SignatureAlgorithm").before a0 Z = true := G.1 _ (List.mem_of_getElem? (i := 9) rfl)
theorem w11 {Z : State} {a0 : Array Value} {zC : Int32} {fS : Value} {cA : Addr} {e0 : Addr} {e1 : Addr} {e2 : Addr} (G : Gl Z a0 zC fS cA e0 e1 e2) : (Jvm.Cond.methodLink "com/example/campo_grande/campogrande/ContentKeyEqualsPinLaw" (37 : Nat) ({ cls := "com/example/campo_grande/campogrande/ContentKeyEqualsPinLaw", name := "sig", desc := "(II)Ljava/lang/String;" } : Jvm.MethodName)).before a0 Z = true := G.1 _ (List.mem_of_getElem? (i := 11) rfl)
theorem w12 {Z : State} {a0 : Array Value} {zC : Int32} {fS : Value} {cA : Addr} {e0 : Addr} {e1 : Addr} {e2 : Addr} (G : Gl Z a0 zC fS cA e0 e1 e2) : (Jvm.Cond.static ({ cls := "com/example/campo_grande/campogrande/ContentKeyEqualsPinLaw", name := "sig", desc := "(II)Ljava/lang/String;" } : Jvm.MethodName)).before a0 Z = true := G.1 _ (List.mem_of_getElem? (i := 12) rfl)
theorem w13 {Z : State} {a0 : Array Value} {zC : Int32} {fS : Value} {cA : Addr} {e0 : Addr} {e1 : Addr} {e2 : Addr} (G : Gl Z a0 zC fS cA e0 e1 e2) : (Jvm.Cond.code ({ cls := "com/example/campo_grande/campogrande/ContentKeyEqualsPinLaw", name := "sig", desc := "(II)Ljava/lang/String;" } : Jvm.MethodName) method_4_code (4 : Nat) (Option.some (Jvm.ClassFile.FieldType.object "java/lang/String"))).before a0 Z = true := G.1 _ (List.mem_of_getElem? (i := 13) rfl)
theorem w14 {Z : State} {a0 : Array Value} {zC : Int32} {fS : Value} {cA : Addr} {e0 : Addr} {e1 : Addr} {e2 : Addr} (G : Gl Z a0 zC fS cA e0 e1 e2) : (Jvm.Cond.arrayClass Jvm.ClassFile.FieldType.char).before a0 Z = true := G.1 _ (List.mem_of_getElem? (i := 14) rfl)
theorem w15 {Z : State} {a0 : Array Value} {zC : Int32} {fS : Value} {cA : Addr} {e0 : Addr} {e1 : Addr} {e2 : Addr} (G : Gl Z a0 zC fS cA e0 e1 e2) : (Jvm.Cond.methodLink "com/example/campo_grande/campogrande/ContentKeyEqualsPinLaw" (19 : Nat) ({ cls := "com/example/campo_grande/campogrande/ContentKeyEqualsPinLaw", name := "hex", desc := "(I)C" } : Jvm.MethodName)).before a0 Z = true := G.1 _ (List.mem_of_getElem? (i := 15) rfl)
theorem w16 {Z : State} {a0 : Array Value} {zC : Int32} {fS : Value} {cA : Addr} {e0 : Addr} {e1 : Addr} {e2 : Addr} (G : Gl Z a0 zC fS cA e0 e1 e2) : (Jvm.Cond.static ({ cls := "com/example/campo_grande/campogrande/ContentKeyEqualsPinLaw", name := "hex", desc := "(I)C" } : Jvm.MethodName)).before a0 Z = true := G.1 _ (List.mem_of_getElem? (i := 16) rfl)
theorem w17 {Z : State} {a0 : Array Value} {zC : Int32} {fS : Value} {cA : Addr} {e0 : Addr} {e1 : Addr} {e2 : Addr} (G : Gl Z a0 zC fS cA e0 e1 e2) : (Jvm.Cond.code ({ cls := "com/example/campo_grande/campogrande/ContentKeyEqualsPinLaw", name := "hex", desc := "(I)C" } : Jvm.MethodName) method_3_code (2 : Nat) (Option.some Jvm.ClassFile.FieldType.char)).before a0 Z = true := G.1 _ (List.mem_of_getElem? (i := 17) rfl)
theorem w18 {Z : State} {a0 : Array Value} {zC : Int32} {fS : Value} {cA : Addr} {e0 : Addr} {e1 : Addr} {e2 : Addr} (G : Gl Z a0 zC fS cA e0 e1 e2) : (Jvm.Cond.classLink "com/example/campo_grande/campogrande/ContentKeyEqualsPinLaw" (25 : Nat) "java/lang/String").before a0 Z = true := G.1 _ (List.mem_of_getElem? (i := 18) rfl)
theorem w19 {Z : State} {a0 : Array Value} {zC : Int32} {fS : Value} {cA : Addr} {e0 : Addr} {e1 : Addr} {e2 : Addr} (G : Gl Z a0 zC fS cA e0 e1 e2) : (Jvm.Cond.instantiable "java/lang/String" (4 : Nat)).before a0 Z = true := G.1 _ (List.mem_of_getElem? (i := 19) rfl)
theorem w20 {Z : State} {a0 : Array Value} {zC : Int32} {fS : Value} {cA : Addr} {e0 : Addr} {e1 : Addr} {e2 : Addr} (G : Gl Z a0 zC fS cA e0 e1 e2) : (Jvm.Cond.initialized "java/lang/String").before a0 Z = true := G.1 _ (List.mem_of_getElem? (i := 20) rfl)
theorem w21 {Z : State} {a0 : Array Value} {zC : Int32} {fS : Value} {cA : Addr} {e0 : Addr} {e1 : Addr} {e2 : Addr} (G : Gl Z a0 zC fS cA e0 e1 e2) : (Jvm.Cond.methodLink "com/example/campo_grande/campogrande/ContentKeyEqualsPinLaw" (27 : Nat) ({ cls := "java/lang/String", name := "<init>", desc := "([C)V" } : Jvm.MethodName)).before a0 Z = true := G.1 _ (List.mem_of_getElem? (i := 21) rfl)
theorem w22 {Z : State} {a0 : Array Value} {zC : Int32} {fS : Value} {cA : Addr} {e0 : Addr} {e1 : Addr} {e2 : Addr} (G : Gl Z a0 zC fS cA e0 e1 e2) : (Jvm.Cond.instanceMethod ({ cls := "java/lang/String", name := "<init>", desc := "([C)V" } : Jvm.MethodName)).before a0 Z = true := G.1 _ (List.mem_of_getElem? (i := 22) rfl)
theorem w23 {Z : State} {a0 : Array Value} {zC : Int32} {fS : Value} {cA : Addr} {e0 : Addr} {e1 : Addr} {e2 : Addr} (G : Gl Z a0 zC fS cA e0 e1 e2) : (Jvm.Cond.code ({ cls := "java/lang/String", name := "<init>", desc := "([C)V" } : Jvm.MethodName) jdk_42_method_3_code (2 : Nat) (Option.none : Option Jvm.ClassFile.FieldType)).before a0 Z = true := G.1 _ (List.mem_of_getElem? (i := 23) rfl)
theorem w24 {Z : State} {a0 : Array Value} {zC : Int32} {fS : Value} {cA : Addr} {e0 : Addr} {e1 : Addr} {e2 : Addr} (G : Gl Z a0 zC fS cA e0 e1 e2) : (Jvm.Cond.methodLink "java/lang/String" (27 : Nat) ({ cls := "java/lang/String", name := "<init>", desc := "([CIILjava/lang/Void;)V" } : Jvm.MethodName)).before a0 Z = true := G.1 _ (List.mem_of_getElem? (i := 24) rfl)
theorem w25 {Z : State} {a0 : Array Value} {zC : Int32} {fS : Value} {cA : Addr} {e0 : Addr} {e1 : Addr} {e2 : Addr} (G : Gl Z a0 zC fS cA e0 e1 e2) : (Jvm.Cond.instanceMethod ({ cls := "java/lang/String", name := "<init>", desc := "([CIILjava/lang/Void;)V" } : Jvm.MethodName)).before a0 Z = true := G.1 _ (List.mem_of_getElem? (i := 25) rfl)
theorem w27 {Z : State} {a0 : Array Value} {zC : Int32} {fS : Value} {cA : Addr} {e0 : Addr} {e1 : Addr} {e2 : Addr} (G : Gl Z a0 zC fS cA e0 e1 e2) : (Jvm.Cond.code ({ cls := "java/lang/String", name := "<init>", desc := "([CIILjava/lang/Void;)V" } : Jvm.MethodName) jdk_42_method_149_code (6 : Nat) (Option.none : Option Jvm.ClassFile.FieldType)).before a0 Z = true := G.1 _ (List.mem_of_getElem? (i := 27) rfl)
theorem w28 {Z : State} {a0 : Array Value} {zC : Int32} {fS : Value} {cA : Addr} {e0 : Addr} {e1 : Addr} {e2 : Addr} (G : Gl Z a0 zC fS cA e0 e1 e2) : (Jvm.Cond.methodLink "java/lang/String" (1 : Nat) ({ cls := "java/lang/Object", name := "<init>", desc := "()V" } : Jvm.MethodName)).before a0 Z = true := G.1 _ (List.mem_of_getElem? (i := 28) rfl)
theorem w29 {Z : State} {a0 : Array Value} {zC : Int32} {fS : Value} {cA : Addr} {e0 : Addr} {e1 : Addr} {e2 : Addr} (G : Gl Z a0 zC fS cA e0 e1 e2) : (Jvm.Cond.instanceMethod ({ cls := "java/lang/Object", name := "<init>", desc := "()V" } : Jvm.MethodName)).before a0 Z = true := G.1 _ (List.mem_of_getElem? (i := 29) rfl)
theorem w30 {Z : State} {a0 : Array Value} {zC : Int32} {fS : Value} {cA : Addr} {e0 : Addr} {e1 : Addr} {e2 : Addr} (G : Gl Z a0 zC fS cA e0 e1 e2) : (Jvm.Cond.code ({ cls := "java/lang/Object", name := "<init>", desc := "()V" } : Jvm.MethodName) object_method_1_code (1 : Nat) (Option.none : Option Jvm.ClassFile.FieldType)).before a0 Z = true := G.1 _ (List.mem_of_getElem? (i := 30) rfl)
theorem w31 {Z : State} {a0 : Array Value} {zC : Int32} {fS : Value} {cA : Addr} {e0 : Addr} {e1 : Addr} {e2 : Addr} (G : Gl Z a0 zC fS cA e0 e1 e2) : (Jvm.Cond.fieldLink "java/lang/String" (38 : Nat) "java/lang/String" "COMPACT_STRINGS" "Z").before a0 Z = true := G.1 _ (List.mem_of_getElem? (i := 31) rfl)
theorem w32 {Z : State} {a0 : Array Value} {zC : Int32} {fS : Value} {cA : Addr} {e0 : Addr} {e1 : Addr} {e2 : Addr} (G : Gl Z a0 zC fS cA e0 e1 e2) : (Jvm.Cond.methodLink "java/lang/String" (177 : Nat) ({ cls := "java/lang/StringUTF16", name := "compress", desc := "([CII)[B" } : Jvm.MethodName)).before a0 Z = true := G.1 _ (List.mem_of_getElem? (i := 32) rfl)
theorem w33 {Z : State} {a0 : Array Value} {zC : Int32} {fS : Value} {cA : Addr} {e0 : Addr} {e1 : Addr} {e2 : Addr} (G : Gl Z a0 zC fS cA e0 e1 e2) : (Jvm.Cond.static ({ cls := "java/lang/StringUTF16", name := "compress", desc := "([CII)[B" } : Jvm.MethodName)).before a0 Z = true := G.1 _ (List.mem_of_getElem? (i := 33) rfl)
theorem w34 {Z : State} {a0 : Array Value} {zC : Int32} {fS : Value} {cA : Addr} {e0 : Addr} {e1 : Addr} {e2 : Addr} (G : Gl Z a0 zC fS cA e0 e1 e2) : (Jvm.Cond.initialized "java/lang/StringUTF16").before a0 Z = true := G.1 _ (List.mem_of_getElem? (i := 34) rfl)
theorem w35 {Z : State} {a0 : Array Value} {zC : Int32} {fS : Value} {cA : Addr} {e0 : Addr} {e1 : Addr} {e2 : Addr} (G : Gl Z a0 zC fS cA e0 e1 e2) : (Jvm.Cond.code ({ cls := "java/lang/StringUTF16", name := "compress", desc := "([CII)[B" } : Jvm.MethodName) jdk_52_method_16_code (6 : Nat) (Option.some (Jvm.ClassFile.FieldType.array Jvm.ClassFile.FieldType.byte))).before a0 Z = true := G.1 _ (List.mem_of_getElem? (i := 35) rfl)
theorem w36 {Z : State} {a0 : Array Value} {zC : Int32} {fS : Value} {cA : Addr} {e0 : Addr} {e1 : Addr} {e2 : Addr} (G : Gl Z a0 zC fS cA e0 e1 e2) : (Jvm.Cond.arrayClass Jvm.ClassFile.FieldType.byte).before a0 Z = true := G.1 _ (List.mem_of_getElem? (i := 36) rfl)
theorem w37 {Z : State} {a0 : Array Value} {zC : Int32} {fS : Value} {cA : Addr} {e0 : Addr} {e1 : Addr} {e2 : Addr} (G : Gl Z a0 zC fS cA e0 e1 e2) : (Jvm.Cond.methodLink "java/lang/StringUTF16" (115 : Nat) ({ cls := "java/lang/StringUTF16", name := "compress", desc := "([CI[BII)I" } : Jvm.MethodName)).before a0 Z = true := G.1 _ (List.mem_of_getElem? (i := 37) rfl)
theorem w38 {Z : State} {a0 : Array Value} {zC : Int32} {fS : Value} {cA : Addr} {e0 : Addr} {e1 : Addr} {e2 : Addr} (G : Gl Z a0 zC fS cA e0 e1 e2) : (Jvm.Cond.static ({ cls := "java/lang/StringUTF16", name := "compress", desc := "([CI[BII)I" } : Jvm.MethodName)).before a0 Z = true := G.1 _ (List.mem_of_getElem? (i := 38) rfl)
theorem w39 {Z : State} {a0 : Array Value} {zC : Int32} {fS : Value} {cA : Addr} {e0 : Addr} {e1 : Addr} {e2 : Addr} (G : Gl Z a0 zC fS cA e0 e1 e2) : (Jvm.Cond.code ({ cls := "java/lang/StringUTF16", name := "compress", desc := "([CI[BII)I" } : Jvm.MethodName) jdk_52_method_21_code (7 : Nat) (Option.some Jvm.ClassFile.FieldType.int)).before a0 Z = true := G.1 _ (List.mem_of_getElem? (i := 39) rfl)
theorem w40 {Z : State} {a0 : Array Value} {zC : Int32} {fS : Value} {cA : Addr} {e0 : Addr} {e1 : Addr} {e2 : Addr} (G : Gl Z a0 zC fS cA e0 e1 e2) : (Jvm.Cond.methodLink "java/lang/String" (47 : Nat) ({ cls := "java/lang/StringUTF16", name := "coderFromArrayLen", desc := "([BI)B" } : Jvm.MethodName)).before a0 Z = true := G.1 _ (List.mem_of_getElem? (i := 40) rfl)
theorem w41 {Z : State} {a0 : Array Value} {zC : Int32} {fS : Value} {cA : Addr} {e0 : Addr} {e1 : Addr} {e2 : Addr} (G : Gl Z a0 zC fS cA e0 e1 e2) : (Jvm.Cond.static ({ cls := "java/lang/StringUTF16", name := "coderFromArrayLen", desc := "([BI)B" } : Jvm.MethodName)).before a0 Z = true := G.1 _ (List.mem_of_getElem? (i := 41) rfl)
theorem w42 {Z : State} {a0 : Array Value} {zC : Int32} {fS : Value} {cA : Addr} {e0 : Addr} {e1 : Addr} {e2 : Addr} (G : Gl Z a0 zC fS cA e0 e1 e2) : (Jvm.Cond.code ({ cls := "java/lang/StringUTF16", name := "coderFromArrayLen", desc := "([BI)B" } : Jvm.MethodName) jdk_52_method_15_code (2 : Nat) (Option.some Jvm.ClassFile.FieldType.byte)).before a0 Z = true := G.1 _ (List.mem_of_getElem? (i := 42) rfl)
theorem w43 {Z : State} {a0 : Array Value} {zC : Int32} {fS : Value} {cA : Addr} {e0 : Addr} {e1 : Addr} {e2 : Addr} (G : Gl Z a0 zC fS cA e0 e1 e2) : (Jvm.Cond.fieldLink "java/lang/String" (15 : Nat) "java/lang/String" "coder" "B").before a0 Z = true := G.1 _ (List.mem_of_getElem? (i := 43) rfl)
theorem w44 {Z : State} {a0 : Array Value} {zC : Int32} {fS : Value} {cA : Addr} {e0 : Addr} {e1 : Addr} {e2 : Addr} (G : Gl Z a0 zC fS cA e0 e1 e2) : (Jvm.Cond.laysFinal "java/lang/String" "java/lang/String" "coder" "B").before a0 Z = true := G.1 _ (List.mem_of_getElem? (i := 44) rfl)
theorem w45 {Z : State} {a0 : Array Value} {zC : Int32} {fS : Value} {cA : Addr} {e0 : Addr} {e1 : Addr} {e2 : Addr} (G : Gl Z a0 zC fS cA e0 e1 e2) : (Jvm.Cond.fieldLink "java/lang/String" (9 : Nat) "java/lang/String" "value" "[B").before a0 Z = true := G.1 _ (List.mem_of_getElem? (i := 45) rfl)
theorem w46 {Z : State} {a0 : Array Value} {zC : Int32} {fS : Value} {cA : Addr} {e0 : Addr} {e1 : Addr} {e2 : Addr} (G : Gl Z a0 zC fS cA e0 e1 e2) : (Jvm.Cond.laysFinal "java/lang/String" "java/lang/String" "value" "[B").before a0 Z = true := G.1 _ (List.mem_of_getElem? (i := 46) rfl)
theorem w47 {Z : State} {a0 : Array Value} {zC : Int32} {fS : Value} {cA : Addr} {e0 : Addr} {e1 : Addr} {e2 : Addr} (G : Gl Z a0 zC fS cA e0 e1 e2) : (Jvm.Cond.methodLink "com/example/campo_grande/campogrande/ContentKeyEqualsPinLaw" (41 : Nat) ({ cls := "com/example/campo_grande/campogrande/ContentKey", name := "<init>", desc := "(ILcom/example/campo_grande/campogrande/SignatureAlgorithm;Ljava/lang/String;I)V" } : Jvm.MethodName)).before a0 Z = true := G.1 _ (List.mem_of_getElem? (i := 47) rfl)
theorem w48 {Z : State} {a0 : Array Value} {zC : Int32} {fS : Value} {cA : Addr} {e0 : Addr} {e1 : Addr} {e2 : Addr} (G : Gl Z a0 zC fS cA e0 e1 e2) : (Jvm.Cond.instanceMethod ({ cls := "com/example/campo_grande/campogrande/ContentKey", name := "<init>", desc := "(ILcom/example/campo_grande/campogrande/SignatureAlgorithm;Ljava/lang/String;I)V" } : Jvm.MethodName)).before a0 Z = true := G.1 _ (List.mem_of_getElem? (i := 48) rfl)
theorem w49 {Z : State} {a0 : Array Value} {zC : Int32} {fS : Value} {cA : Addr} {e0 : Addr} {e1 : Addr} {e2 : Addr} (G : Gl Z a0 zC fS cA e0 e1 e2) : (Jvm.Cond.code ({ cls := "com/example/campo_grande/campogrande/ContentKey", name := "<init>", desc := "(ILcom/example/campo_grande/campogrande/SignatureAlgorithm;Ljava/lang/String;I)V" } : Jvm.MethodName) prog_13_method_1_code (5 : Nat) (Option.none : Option Jvm.ClassFile.FieldType)).before a0 Z = true := G.1 _ (List.mem_of_getElem? (i := 49) rfl)
theorem w50 {Z : State} {a0 : Array Value} {zC : Int32} {fS : Value} {cA : Addr} {e0 : Addr} {e1 : Addr} {e2 : Addr} (G : Gl Z a0 zC fS cA e0 e1 e2) : (Jvm.Cond.methodLink "com/example/campo_grande/campogrande/ContentKey" (1 : Nat) ({ cls := "java/lang/Object", name := "<init>", desc := "()V" } : Jvm.MethodName)).before a0 Z = true := G.1 _ (List.mem_of_getElem? (i := 50) rfl)
theorem w51 {Z : State} {a0 : Array Value} {zC : Int32} {fS : Value} {cA : Addr} {e0 : Addr} {e1 : Addr} {e2 : Addr} (G : Gl Z a0 zC fS cA e0 e1 e2) : (Jvm.Cond.stringLink "com/example/campo_grande/campogrande/ContentKey" (7 : Nat) "algorithm").before a0 Z = true := G.1 _ (List.mem_of_getElem? (i := 51) rfl)
theorem w52 {Z : State} {a0 : Array Value} {zC : Int32} {fS : Value} {cA : Addr} {e0 : Addr} {e1 : Addr} {e2 : Addr} (G : Gl Z a0 zC fS cA e0 e1 e2) : (Jvm.Cond.soleField "java/lang/String" "value").before a0 Z = true := G.1 _ (List.mem_of_getElem? (i := 52) rfl)
theorem w53 {Z : State} {a0 : Array Value} {zC : Int32} {fS : Value} {cA : Addr} {e0 : Addr} {e1 : Addr} {e2 : Addr} (G : Gl Z a0 zC fS cA e0 e1 e2) : (Jvm.Cond.soleField "java/lang/String" "coder").before a0 Z = true := G.1 _ (List.mem_of_getElem? (i := 53) rfl)
theorem w54 {Z : State} {a0 : Array Value} {zC : Int32} {fS : Value} {cA : Addr} {e0 : Addr} {e1 : Addr} {e2 : Addr} (G : Gl Z a0 zC fS cA e0 e1 e2) : (Jvm.Cond.methodLink "com/example/campo_grande/campogrande/ContentKey" (9 : Nat) ({ cls := "java/util/Objects", name := "requireNonNull", desc := "(Ljava/lang/Object;Ljava/lang/String;)Ljava/lang/Object;" } : Jvm.MethodName)).before a0 Z = true := G.1 _ (List.mem_of_getElem? (i := 54) rfl)
theorem w55 {Z : State} {a0 : Array Value} {zC : Int32} {fS : Value} {cA : Addr} {e0 : Addr} {e1 : Addr} {e2 : Addr} (G : Gl Z a0 zC fS cA e0 e1 e2) : (Jvm.Cond.static ({ cls := "java/util/Objects", name := "requireNonNull", desc := "(Ljava/lang/Object;Ljava/lang/String;)Ljava/lang/Object;" } : Jvm.MethodName)).before a0 Z = true := G.1 _ (List.mem_of_getElem? (i := 55) rfl)
theorem w56 {Z : State} {a0 : Array Value} {zC : Int32} {fS : Value} {cA : Addr} {e0 : Addr} {e1 : Addr} {e2 : Addr} (G : Gl Z a0 zC fS cA e0 e1 e2) : (Jvm.Cond.initialized "java/util/Objects").before a0 Z = true := G.1 _ (List.mem_of_getElem? (i := 56) rfl)
theorem w57 {Z : State} {a0 : Array Value} {zC : Int32} {fS : Value} {cA : Addr} {e0 : Addr} {e1 : Addr} {e2 : Addr} (G : Gl Z a0 zC fS cA e0 e1 e2) : (Jvm.Cond.code ({ cls := "java/util/Objects", name := "requireNonNull", desc := "(Ljava/lang/Object;Ljava/lang/String;)Ljava/lang/Object;" } : Jvm.MethodName) jdk_31_method_11_code (2 : Nat) (Option.some (Jvm.ClassFile.FieldType.object "java/lang/Object"))).before a0 Z = true := G.1 _ (List.mem_of_getElem? (i := 57) rfl)
theorem w58 {Z : State} {a0 : Array Value} {zC : Int32} {fS : Value} {cA : Addr} {e0 : Addr} {e1 : Addr} {e2 : Addr} (G : Gl Z a0 zC fS cA e0 e1 e2) : (Jvm.Cond.stringLink "com/example/campo_grande/campogrande/ContentKey" (15 : Nat) "signature").before a0 Z = true := G.1 _ (List.mem_of_getElem? (i := 58) rfl)
theorem w59 {Z : State} {a0 : Array Value} {zC : Int32} {fS : Value} {cA : Addr} {e0 : Addr} {e1 : Addr} {e2 : Addr} (G : Gl Z a0 zC fS cA e0 e1 e2) : (Jvm.Cond.methodLink "com/example/campo_grande/campogrande/ContentKey" (25 : Nat) ({ cls := "com/example/campo_grande/campogrande/SignatureAlgorithm", name := "isSignature", desc := "(Ljava/lang/String;)Z" } : Jvm.MethodName)).before a0 Z = true := G.1 _ (List.mem_of_getElem? (i := 59) rfl)
theorem w60 {Z : State} {a0 : Array Value} {zC : Int32} {fS : Value} {cA : Addr} {e0 : Addr} {e1 : Addr} {e2 : Addr} (G : Gl Z a0 zC fS cA e0 e1 e2) : (Jvm.Cond.declares ({ cls := "com/example/campo_grande/campogrande/SignatureAlgorithm", name := "isSignature", desc := "(Ljava/lang/String;)Z" } : Jvm.MethodName)).before a0 Z = true := G.1 _ (List.mem_of_getElem? (i := 60) rfl)
theorem w61 {Z : State} {a0 : Array Value} {zC : Int32} {fS : Value} {cA : Addr} {e0 : Addr} {e1 : Addr} {e2 : Addr} (G : Gl Z a0 zC fS cA e0 e1 e2) : (Jvm.Cond.instanceMethod ({ cls := "com/example/campo_grande/campogrande/SignatureAlgorithm", name := "isSignature", desc := "(Ljava/lang/String;)Z" } : Jvm.MethodName)).before a0 Z = true := G.1 _ (List.mem_of_getElem? (i := 61) rfl)
theorem w62 {Z : State} {a0 : Array Value} {zC : Int32} {fS : Value} {cA : Addr} {e0 : Addr} {e1 : Addr} {e2 : Addr} (G : Gl Z a0 zC fS cA e0 e1 e2) : (Jvm.Cond.selects "com/example/campo_grande/campogrande/SignatureAlgorithm" ({ cls := "com/example/campo_grande/campogrande/SignatureAlgorithm", name := "isSignature", desc := "(Ljava/lang/String;)Z" } : Jvm.MethodName) ({ cls := "com/example/campo_grande/campogrande/SignatureAlgorithm", name := "isSignature", desc := "(Ljava/lang/String;)Z" } : Jvm.MethodName)).before a0 Z = true := G.1 _ (List.mem_of_getElem? (i := 62) rfl)
theorem w63 {Z : State} {a0 : Array Value} {zC : Int32} {fS : Value} {cA : Addr} {e0 : Addr} {e1 : Addr} {e2 : Addr} (G : Gl Z a0 zC fS cA e0 e1 e2) : (Jvm.Cond.code ({ cls := "com/example/campo_grande/campogrande/SignatureAlgorithm", name := "isSignature", desc := "(Ljava/lang/String;)Z" } : Jvm.MethodName) prog_25_method_6_code (4 : Nat) (Option.some Jvm.ClassFile.FieldType.boolean)).before a0 Z = true := G.1 _ (List.mem_of_getElem? (i := 63) rfl)
theorem w64 {Z : State} {a0 : Array Value} {zC : Int32} {fS : Value} {cA : Addr} {e0 : Addr} {e1 : Addr} {e2 : Addr} (G : Gl Z a0 zC fS cA e0 e1 e2) : (Jvm.Cond.methodLink "com/example/campo_grande/campogrande/SignatureAlgorithm" (60 : Nat) ({ cls := "java/lang/String", name := "length", desc := "()I" } : Jvm.MethodName)).before a0 Z = true := G.1 _ (List.mem_of_getElem? (i := 64) rfl)
theorem w65 {Z : State} {a0 : Array Value} {zC : Int32} {fS : Value} {cA : Addr} {e0 : Addr} {e1 : Addr} {e2 : Addr} (G : Gl Z a0 zC fS cA e0 e1 e2) : (Jvm.Cond.declares ({ cls := "java/lang/String", name := "length", desc := "()I" } : Jvm.MethodName)).before a0 Z = true := G.1 _ (List.mem_of_getElem? (i := 65) rfl)
theorem w66 {Z : State} {a0 : Array Value} {zC : Int32} {fS : Value} {cA : Addr} {e0 : Addr} {e1 : Addr} {e2 : Addr} (G : Gl Z a0 zC fS cA e0 e1 e2) : (Jvm.Cond.instanceMethod ({ cls := "java/lang/String", name := "length", desc := "()I" } : Jvm.MethodName)).before a0 Z = true := G.1 _ (List.mem_of_getElem? (i := 66) rfl)
theorem w67 {Z : State} {a0 : Array Value} {zC : Int32} {fS : Value} {cA : Addr} {e0 : Addr} {e1 : Addr} {e2 : Addr} (G : Gl Z a0 zC fS cA e0 e1 e2) : (Jvm.Cond.selects "java/lang/String" ({ cls := "java/lang/String", name := "length", desc := "()I" } : Jvm.MethodName) ({ cls := "java/lang/String", name := "length", desc := "()I" } : Jvm.MethodName)).before a0 Z = true := G.1 _ (List.mem_of_getElem? (i := 67) rfl)
theorem w68 {Z : State} {a0 : Array Value} {zC : Int32} {fS : Value} {cA : Addr} {e0 : Addr} {e1 : Addr} {e2 : Addr} (G : Gl Z a0 zC fS cA e0 e1 e2) : (Jvm.Cond.code ({ cls := "java/lang/String", name := "length", desc := "()I" } : Jvm.MethodName) jdk_42_method_54_code (1 : Nat) (Option.some Jvm.ClassFile.FieldType.int)).before a0 Z = true := G.1 _ (List.mem_of_getElem? (i := 68) rfl)
theorem w69 {Z : State} {a0 : Array Value} {zC : Int32} {fS : Value} {cA : Addr} {e0 : Addr} {e1 : Addr} {e2 : Addr} (G : Gl Z a0 zC fS cA e0 e1 e2) : (Jvm.Cond.methodLink "java/lang/String" (335 : Nat) ({ cls := "java/lang/String", name := "coder", desc := "()B" } : Jvm.MethodName)).before a0 Z = true := G.1 _ (List.mem_of_getElem? (i := 69) rfl)
theorem w70 {Z : State} {a0 : Array Value} {zC : Int32} {fS : Value} {cA : Addr} {e0 : Addr} {e1 : Addr} {e2 : Addr} (G : Gl Z a0 zC fS cA e0 e1 e2) : (Jvm.Cond.declares ({ cls := "java/lang/String", name := "coder", desc := "()B" } : Jvm.MethodName)).before a0 Z = true := G.1 _ (List.mem_of_getElem? (i := 70) rfl)
theorem w71 {Z : State} {a0 : Array Value} {zC : Int32} {fS : Value} {cA : Addr} {e0 : Addr} {e1 : Addr} {e2 : Addr} (G : Gl Z a0 zC fS cA e0 e1 e2) : (Jvm.Cond.instanceMethod ({ cls := "java/lang/String", name := "coder", desc := "()B" } : Jvm.MethodName)).before a0 Z = true := G.1 _ (List.mem_of_getElem? (i := 71) rfl)
theorem w72 {Z : State} {a0 : Array Value} {zC : Int32} {fS : Value} {cA : Addr} {e0 : Addr} {e1 : Addr} {e2 : Addr} (G : Gl Z a0 zC fS cA e0 e1 e2) : (Jvm.Cond.selects "java/lang/String" ({ cls := "java/lang/String", name := "coder", desc := "()B" } : Jvm.MethodName) ({ cls := "java/lang/String", name := "coder", desc := "()B" } : Jvm.MethodName)).before a0 Z = true := G.1 _ (List.mem_of_getElem? (i := 72) rfl)
theorem w73 {Z : State} {a0 : Array Value} {zC : Int32} {fS : Value} {cA : Addr} {e0 : Addr} {e1 : Addr} {e2 : Addr} (G : Gl Z a0 zC fS cA e0 e1 e2) : (Jvm.Cond.code ({ cls := "java/lang/String", name := "coder", desc := "()B" } : Jvm.MethodName) jdk_42_method_152_code (1 : Nat) (Option.some Jvm.ClassFile.FieldType.byte)).before a0 Z = true := G.1 _ (List.mem_of_getElem? (i := 73) rfl)
theorem w74 {Z : State} {a0 : Array Value} {zC : Int32} {fS : Value} {cA : Addr} {e0 : Addr} {e1 : Addr} {e2 : Addr} (G : Gl Z a0 zC fS cA e0 e1 e2) : (Jvm.Cond.fieldLink "com/example/campo_grande/campogrande/SignatureAlgorithm" (39 : Nat) "com/example/campo_grande/campogrande/SignatureAlgorithm" "digestLength" "I").before a0 Z = true := G.1 _ (List.mem_of_getElem? (i := 74) rfl)
theorem w76 {Z : State} {a0 : Array Value} {zC : Int32} {fS : Value} {cA : Addr} {e0 : Addr} {e1 : Addr} {e2 : Addr} (G : Gl Z a0 zC fS cA e0 e1 e2) : (Jvm.Cond.methodLink "com/example/campo_grande/campogrande/SignatureAlgorithm" (64 : Nat) ({ cls := "java/lang/String", name := "charAt", desc := "(I)C" } : Jvm.MethodName)).before a0 Z = true := G.1 _ (List.mem_of_getElem? (i := 76) rfl)
theorem w77 {Z : State} {a0 : Array Value} {zC : Int32} {fS : Value} {cA : Addr} {e0 : Addr} {e1 : Addr} {e2 : Addr} (G : Gl Z a0 zC fS cA e0 e1 e2) : (Jvm.Cond.declares ({ cls := "java/lang/String", name := "charAt", desc := "(I)C" } : Jvm.MethodName)).before a0 Z = true := G.1 _ (List.mem_of_getElem? (i := 77) rfl)
theorem w78 {Z : State} {a0 : Array Value} {zC : Int32} {fS : Value} {cA : Addr} {e0 : Addr} {e1 : Addr} {e2 : Addr} (G : Gl Z a0 zC fS cA e0 e1 e2) : (Jvm.Cond.instanceMethod ({ cls := "java/lang/String", name := "charAt", desc := "(I)C" } : Jvm.MethodName)).before a0 Z = true := G.1 _ (List.mem_of_getElem? (i := 78) rfl)
theorem w79 {Z : State} {a0 : Array Value} {zC : Int32} {fS : Value} {cA : Addr} {e0 : Addr} {e1 : Addr} {e2 : Addr} (G : Gl Z a0 zC fS cA e0 e1 e2) : (Jvm.Cond.selects "java/lang/String" ({ cls := "java/lang/String", name := "charAt", desc := "(I)C" } : Jvm.MethodName) ({ cls := "java/lang/String", name := "charAt", desc := "(I)C" } : Jvm.MethodName)).before a0 Z = true := G.1 _ (List.mem_of_getElem? (i := 79) rfl)
theorem w80 {Z : State} {a0 : Array Value} {zC : Int32} {fS : Value} {cA : Addr} {e0 : Addr} {e1 : Addr} {e2 : Addr} (G : Gl Z a0 zC fS cA e0 e1 e2) : (Jvm.Cond.code ({ cls := "java/lang/String", name := "charAt", desc := "(I)C" } : Jvm.MethodName) jdk_42_method_56_code (2 : Nat) (Option.some Jvm.ClassFile.FieldType.char)).before a0 Z = true := G.1 _ (List.mem_of_getElem? (i := 80) rfl)
theorem w81 {Z : State} {a0 : Array Value} {zC : Int32} {fS : Value} {cA : Addr} {e0 : Addr} {e1 : Addr} {e2 : Addr} (G : Gl Z a0 zC fS cA e0 e1 e2) : (Jvm.Cond.methodLink "java/lang/String" (492 : Nat) ({ cls := "java/lang/String", name := "isLatin1", desc := "()Z" } : Jvm.MethodName)).before a0 Z = true := G.1 _ (List.mem_of_getElem? (i := 81) rfl)
theorem w82 {Z : State} {a0 : Array Value} {zC : Int32} {fS : Value} {cA : Addr} {e0 : Addr} {e1 : Addr} {e2 : Addr} (G : Gl Z a0 zC fS cA e0 e1 e2) : (Jvm.Cond.declares ({ cls := "java/lang/String", name := "isLatin1", desc := "()Z" } : Jvm.MethodName)).before a0 Z = true := G.1 _ (List.mem_of_getElem? (i := 82) rfl)
theorem w83 {Z : State} {a0 : Array Value} {zC : Int32} {fS : Value} {cA : Addr} {e0 : Addr} {e1 : Addr} {e2 : Addr} (G : Gl Z a0 zC fS cA e0 e1 e2) : (Jvm.Cond.instanceMethod ({ cls := "java/lang/String", name := "isLatin1", desc := "()Z" } : Jvm.MethodName)).before a0 Z = true := G.1 _ (List.mem_of_getElem? (i := 83) rfl)
theorem w84 {Z : State} {a0 : Array Value} {zC : Int32} {fS : Value} {cA : Addr} {e0 : Addr} {e1 : Addr} {e2 : Addr} (G : Gl Z a0 zC fS cA e0 e1 e2) : (Jvm.Cond.selects "java/lang/String" ({ cls := "java/lang/String", name := "isLatin1", desc := "()Z" } : Jvm.MethodName) ({ cls := "java/lang/String", name := "isLatin1", desc := "()Z" } : Jvm.MethodName)).before a0 Z = true := G.1 _ (List.mem_of_getElem? (i := 84) rfl)
theorem w85 {Z : State} {a0 : Array Value} {zC : Int32} {fS : Value} {cA : Addr} {e0 : Addr} {e1 : Addr} {e2 : Addr} (G : Gl Z a0 zC fS cA e0 e1 e2) : (Jvm.Cond.code ({ cls := "java/lang/String", name := "isLatin1", desc := "()Z" } : Jvm.MethodName) jdk_42_method_154_code (1 : Nat) (Option.some Jvm.ClassFile.FieldType.boolean)).before a0 Z = true := G.1 _ (List.mem_of_getElem? (i := 85) rfl)
theorem w86 {Z : State} {a0 : Array Value} {zC : Int32} {fS : Value} {cA : Addr} {e0 : Addr} {e1 : Addr} {e2 : Addr} (G : Gl Z a0 zC fS cA e0 e1 e2) : (Jvm.Cond.methodLink "java/lang/String" (495 : Nat) ({ cls := "java/lang/StringLatin1", name := "charAt", desc := "([BI)C" } : Jvm.MethodName)).before a0 Z = true := G.1 _ (List.mem_of_getElem? (i := 86) rfl)
theorem w87 {Z : State} {a0 : Array Value} {zC : Int32} {fS : Value} {cA : Addr} {e0 : Addr} {e1 : Addr} {e2 : Addr} (G : Gl Z a0 zC fS cA e0 e1 e2) : (Jvm.Cond.static ({ cls := "java/lang/StringLatin1", name := "charAt", desc := "([BI)C" } : Jvm.MethodName)).before a0 Z = true := G.1 _ (List.mem_of_getElem? (i := 87) rfl)
theorem w88 {Z : State} {a0 : Array Value} {zC : Int32} {fS : Value} {cA : Addr} {e0 : Addr} {e1 : Addr} {e2 : Addr} (G : Gl Z a0 zC fS cA e0 e1 e2) : (Jvm.Cond.initialized "java/lang/StringLatin1").before a0 Z = true := G.1 _ (List.mem_of_getElem? (i := 88) rfl)
theorem w89 {Z : State} {a0 : Array Value} {zC : Int32} {fS : Value} {cA : Addr} {e0 : Addr} {e1 : Addr} {e2 : Addr} (G : Gl Z a0 zC fS cA e0 e1 e2) : (Jvm.Cond.code ({ cls := "java/lang/StringLatin1", name := "charAt", desc := "([BI)C" } : Jvm.MethodName) jdk_43_method_2_code (2 : Nat) (Option.some Jvm.ClassFile.FieldType.char)).before a0 Z = true := G.1 _ (List.mem_of_getElem? (i := 89) rfl)
theorem w90 {Z : State} {a0 : Array Value} {zC : Int32} {fS : Value} {cA : Addr} {e0 : Addr} {e1 : Addr} {e2 : Addr} (G : Gl Z a0 zC fS cA e0 e1 e2) : (Jvm.Cond.methodLink "java/lang/StringLatin1" (9 : Nat) ({ cls := "java/lang/String", name := "checkIndex", desc := "(II)V" } : Jvm.MethodName)).before a0 Z = true := G.1 _ (List.mem_of_getElem? (i := 90) rfl)
theorem w91 {Z : State} {a0 : Array Value} {zC : Int32} {fS : Value} {cA : Addr} {e0 : Addr} {e1 : Addr} {e2 : Addr} (G : Gl Z a0 zC fS cA e0 e1 e2) : (Jvm.Cond.static ({ cls := "java/lang/String", name := "checkIndex", desc := "(II)V" } : Jvm.MethodName)).before a0 Z = true := G.1 _ (List.mem_of_getElem? (i := 91) rfl)
theorem w92 {Z : State} {a0 : Array Value} {zC : Int32} {fS : Value} {cA : Addr} {e0 : Addr} {e1 : Addr} {e2 : Addr} (G : Gl Z a0 zC fS cA e0 e1 e2) : (Jvm.Cond.code ({ cls := "java/lang/String", name := "checkIndex", desc := "(II)V" } : Jvm.MethodName) jdk_42_method_155_code (2 : Nat) (Option.none : Option Jvm.ClassFile.FieldType)).before a0 Z = true := G.1 _ (List.mem_of_getElem? (i := 92) rfl)
theorem w93 {Z : State} {a0 : Array Value} {zC : Int32} {fS : Value} {cA : Addr} {e0 : Addr} {e1 : Addr} {e2 : Addr} (G : Gl Z a0 zC fS cA e0 e1 e2) : (Jvm.Cond.fieldLink "java/lang/String" (1053 : Nat) "jdk/internal/util/Preconditions" "SIOOBE_FORMATTER" "Ljava/util/function/BiFunction;").before a0 Z = true := G.1 _ (List.mem_of_getElem? (i := 93) rfl)
theorem w94 {Z : State} {a0 : Array Value} {zC : Int32} {fS : Value} {cA : Addr} {e0 : Addr} {e1 : Addr} {e2 : Addr} (G : Gl Z a0 zC fS cA e0 e1 e2) : (Jvm.Cond.initialized "jdk/internal/util/Preconditions").before a0 Z = true := G.1 _ (List.mem_of_getElem? (i := 94) rfl)
theorem w95 {Z : State} {a0 : Array Value} {zC : Int32} {fS : Value} {cA : Addr} {e0 : Addr} {e1 : Addr} {e2 : Addr} (G : Gl Z a0 zC fS cA e0 e1 e2) : (Jvm.Cond.methodLink "java/lang/String" (1059 : Nat) ({ cls := "jdk/internal/util/Preconditions", name := "checkIndex", desc := "(IILjava/util/function/BiFunction;)I" } : Jvm.MethodName)).before a0 Z = true := G.1 _ (List.mem_of_getElem? (i := 95) rfl)
theorem w96 {Z : State} {a0 : Array Value} {zC : Int32} {fS : Value} {cA : Addr} {e0 : Addr} {e1 : Addr} {e2 : Addr} (G : Gl Z a0 zC fS cA e0 e1 e2) : (Jvm.Cond.static ({ cls := "jdk/internal/util/Preconditions", name := "checkIndex", desc := "(IILjava/util/function/BiFunction;)I" } : Jvm.MethodName)).before a0 Z = true := G.1 _ (List.mem_of_getElem? (i := 96) rfl)
theorem w97 {Z : State} {a0 : Array Value} {zC : Int32} {fS : Value} {cA : Addr} {e0 : Addr} {e1 : Addr} {e2 : Addr} (G : Gl Z a0 zC fS cA e0 e1 e2) : (Jvm.Cond.code ({ cls := "jdk/internal/util/Preconditions", name := "checkIndex", desc := "(IILjava/util/function/BiFunction;)I" } : Jvm.MethodName) jdk_41_method_11_code (3 : Nat) (Option.some Jvm.ClassFile.FieldType.int)).before a0 Z = true := G.1 _ (List.mem_of_getElem? (i := 97) rfl)
theorem w98 {Z : State} {a0 : Array Value} {zC : Int32} {fS : Value} {cA : Addr} {e0 : Addr} {e1 : Addr} {e2 : Addr} (G : Gl Z a0 zC fS cA e0 e1 e2) : (Jvm.Cond.fieldLink "com/example/campo_grande/campogrande/ContentKey" (47 : Nat) "com/example/campo_grande/campogrande/ContentKey" "volume" "I").before a0 Z = true := G.1 _ (List.mem_of_getElem? (i := 98) rfl)
theorem w99 {Z : State} {a0 : Array Value} {zC : Int32} {fS : Value} {cA : Addr} {e0 : Addr} {e1 : Addr} {e2 : Addr} (G : Gl Z a0 zC fS cA e0 e1 e2) : (Jvm.Cond.laysFinal "com/example/campo_grande/campogrande/ContentKey" "com/example/campo_grande/campogrande/ContentKey" "volume" "I").before a0 Z = true := G.1 _ (List.mem_of_getElem? (i := 99) rfl)
theorem w100 {Z : State} {a0 : Array Value} {zC : Int32} {fS : Value} {cA : Addr} {e0 : Addr} {e1 : Addr} {e2 : Addr} (G : Gl Z a0 zC fS cA e0 e1 e2) : (Jvm.Cond.fieldLink "com/example/campo_grande/campogrande/ContentKey" (51 : Nat) "com/example/campo_grande/campogrande/ContentKey" "algorithm" "Lcom/example/campo_grande/campogrande/SignatureAlgorithm;").before a0 Z = true := G.1 _ (List.mem_of_getElem? (i := 100) rfl)
theorem w101 {Z : State} {a0 : Array Value} {zC : Int32} {fS : Value} {cA : Addr} {e0 : Addr} {e1 : Addr} {e2 : Addr} (G : Gl Z a0 zC fS cA e0 e1 e2) : (Jvm.Cond.laysFinal "com/example/campo_grande/campogrande/ContentKey" "com/example/campo_grande/campogrande/ContentKey" "algorithm" "Lcom/example/campo_grande/campogrande/SignatureAlgorithm;").before a0 Z = true := G.1 _ (List.mem_of_getElem? (i := 101) rfl)
theorem w102 {Z : State} {a0 : Array Value} {zC : Int32} {fS : Value} {cA : Addr} {e0 : Addr} {e1 : Addr} {e2 : Addr} (G : Gl Z a0 zC fS cA e0 e1 e2) : (Jvm.Cond.fieldLink "com/example/campo_grande/campogrande/ContentKey" (54 : Nat) "com/example/campo_grande/campogrande/ContentKey" "signature" "Ljava/lang/String;").before a0 Z = true := G.1 _ (List.mem_of_getElem? (i := 102) rfl)
theorem w103 {Z : State} {a0 : Array Value} {zC : Int32} {fS : Value} {cA : Addr} {e0 : Addr} {e1 : Addr} {e2 : Addr} (G : Gl Z a0 zC fS cA e0 e1 e2) : (Jvm.Cond.laysFinal "com/example/campo_grande/campogrande/ContentKey" "com/example/campo_grande/campogrande/ContentKey" "signature" "Ljava/lang/String;").before a0 Z = true := G.1 _ (List.mem_of_getElem? (i := 103) rfl)
theorem w104 {Z : State} {a0 : Array Value} {zC : Int32} {fS : Value} {cA : Addr} {e0 : Addr} {e1 : Addr} {e2 : Addr} (G : Gl Z a0 zC fS cA e0 e1 e2) : (Jvm.Cond.fieldLink "com/example/campo_grande/campogrande/ContentKey" (57 : Nat) "com/example/campo_grande/campogrande/ContentKey" "overflow" "I").before a0 Z = true := G.1 _ (List.mem_of_getElem? (i := 104) rfl)
theorem w105 {Z : State} {a0 : Array Value} {zC : Int32} {fS : Value} {cA : Addr} {e0 : Addr} {e1 : Addr} {e2 : Addr} (G : Gl Z a0 zC fS cA e0 e1 e2) : (Jvm.Cond.laysFinal "com/example/campo_grande/campogrande/ContentKey" "com/example/campo_grande/campogrande/ContentKey" "overflow" "I").before a0 Z = true := G.1 _ (List.mem_of_getElem? (i := 105) rfl)
theorem w106 {Z : State} {a0 : Array Value} {zC : Int32} {fS : Value} {cA : Addr} {e0 : Addr} {e1 : Addr} {e2 : Addr} (G : Gl Z a0 zC fS cA e0 e1 e2) : (Jvm.Cond.methodLink "com/example/campo_grande/campogrande/ContentKeyEqualsPinLaw" (50 : Nat) ({ cls := "com/example/campo_grande/campogrande/ContentKey", name := "equals", desc := "(Ljava/lang/Object;)Z" } : Jvm.MethodName)).before a0 Z = true := G.1 _ (List.mem_of_getElem? (i := 106) rfl)
theorem w107 {Z : State} {a0 : Array Value} {zC : Int32} {fS : Value} {cA : Addr} {e0 : Addr} {e1 : Addr} {e2 : Addr} (G : Gl Z a0 zC fS cA e0 e1 e2) : (Jvm.Cond.declares ({ cls := "com/example/campo_grande/campogrande/ContentKey", name := "equals", desc := "(Ljava/lang/Object;)Z" } : Jvm.MethodName)).before a0 Z = true := G.1 _ (List.mem_of_getElem? (i := 107) rfl)
theorem w108 {Z : State} {a0 : Array Value} {zC : Int32} {fS : Value} {cA : Addr} {e0 : Addr} {e1 : Addr} {e2 : Addr} (G : Gl Z a0 zC fS cA e0 e1 e2) : (Jvm.Cond.instanceMethod ({ cls := "com/example/campo_grande/campogrande/ContentKey", name := "equals", desc := "(Ljava/lang/Object;)Z" } : Jvm.MethodName)).before a0 Z = true := G.1 _ (List.mem_of_getElem? (i := 108) rfl)
theorem w109 {Z : State} {a0 : Array Value} {zC : Int32} {fS : Value} {cA : Addr} {e0 : Addr} {e1 : Addr} {e2 : Addr} (G : Gl Z a0 zC fS cA e0 e1 e2) : (Jvm.Cond.selects "com/example/campo_grande/campogrande/ContentKey" ({ cls := "com/example/campo_grande/campogrande/ContentKey", name := "equals", desc := "(Ljava/lang/Object;)Z" } : Jvm.MethodName) ({ cls := "com/example/campo_grande/campogrande/ContentKey", name := "equals", desc := "(Ljava/lang/Object;)Z" } : Jvm.MethodName)).before a0 Z = true := G.1 _ (List.mem_of_getElem? (i := 109) rfl)
theorem w110 {Z : State} {a0 : Array Value} {zC : Int32} {fS : Value} {cA : Addr} {e0 : Addr} {e1 : Addr} {e2 : Addr} (G : Gl Z a0 zC fS cA e0 e1 e2) : (Jvm.Cond.code ({ cls := "com/example/campo_grande/campogrande/ContentKey", name := "equals", desc := "(Ljava/lang/Object;)Z" } : Jvm.MethodName) prog_13_method_9_code (3 : Nat) (Option.some Jvm.ClassFile.FieldType.boolean)).before a0 Z = true := G.1 _ (List.mem_of_getElem? (i := 110) rfl)
theorem w111 {Z : State} {a0 : Array Value} {zC : Int32} {fS : Value} {cA : Addr} {e0 : Addr} {e1 : Addr} {e2 : Addr} (G : Gl Z a0 zC fS cA e0 e1 e2) : (Jvm.Cond.classLink "com/example/campo_grande/campogrande/ContentKey" (20 : Nat) "com/example/campo_grande/campogrande/ContentKey").before a0 Z = true := G.1 _ (List.mem_of_getElem? (i := 111) rfl)
theorem w113 {Z : State} {a0 : Array Value} {zC : Int32} {fS : Value} {cA : Addr} {e0 : Addr} {e1 : Addr} {e2 : Addr} (G : Gl Z a0 zC fS cA e0 e1 e2) : (Jvm.Cond.methodLink "com/example/campo_grande/campogrande/ContentKey" (115 : Nat) ({ cls := "java/lang/String", name := "equals", desc := "(Ljava/lang/Object;)Z" } : Jvm.MethodName)).before a0 Z = true := G.1 _ (List.mem_of_getElem? (i := 113) rfl)
theorem w114 {Z : State} {a0 : Array Value} {zC : Int32} {fS : Value} {cA : Addr} {e0 : Addr} {e1 : Addr} {e2 : Addr} (G : Gl Z a0 zC fS cA e0 e1 e2) : (Jvm.Cond.declares ({ cls := "java/lang/String", name := "equals", desc := "(Ljava/lang/Object;)Z" } : Jvm.MethodName)).before a0 Z = true := G.1 _ (List.mem_of_getElem? (i := 114) rfl)
theorem w115 {Z : State} {a0 : Array Value} {zC : Int32} {fS : Value} {cA : Addr} {e0 : Addr} {e1 : Addr} {e2 : Addr} (G : Gl Z a0 zC fS cA e0 e1 e2) : (Jvm.Cond.instanceMethod ({ cls := "java/lang/String", name := "equals", desc := "(Ljava/lang/Object;)Z" } : Jvm.MethodName)).before a0 Z = true := G.1 _ (List.mem_of_getElem? (i := 115) rfl)
theorem w116 {Z : State} {a0 : Array Value} {zC : Int32} {fS : Value} {cA : Addr} {e0 : Addr} {e1 : Addr} {e2 : Addr} (G : Gl Z a0 zC fS cA e0 e1 e2) : (Jvm.Cond.selects "java/lang/String" ({ cls := "java/lang/String", name := "equals", desc := "(Ljava/lang/Object;)Z" } : Jvm.MethodName) ({ cls := "java/lang/String", name := "equals", desc := "(Ljava/lang/Object;)Z" } : Jvm.MethodName)).before a0 Z = true := G.1 _ (List.mem_of_getElem? (i := 116) rfl)
theorem w117 {Z : State} {a0 : Array Value} {zC : Int32} {fS : Value} {cA : Addr} {e0 : Addr} {e1 : Addr} {e2 : Addr} (G : Gl Z a0 zC fS cA e0 e1 e2) : (Jvm.Cond.code ({ cls := "java/lang/String", name := "equals", desc := "(Ljava/lang/Object;)Z" } : Jvm.MethodName) jdk_42_method_66_code (3 : Nat) (Option.some Jvm.ClassFile.FieldType.boolean)).before a0 Z = true := G.1 _ (List.mem_of_getElem? (i := 117) rfl)
theorem w118 {Z : State} {a0 : Array Value} {zC : Int32} {fS : Value} {cA : Addr} {e0 : Addr} {e1 : Addr} {e2 : Addr} (G : Gl Z a0 zC fS cA e0 e1 e2) : (Jvm.Cond.classLink "java/lang/String" (10 : Nat) "java/lang/String").before a0 Z = true := G.1 _ (List.mem_of_getElem? (i := 118) rfl)
theorem w119 {Z : State} {a0 : Array Value} {zC : Int32} {fS : Value} {cA : Addr} {e0 : Addr} {e1 : Addr} {e2 : Addr} (G : Gl Z a0 zC fS cA e0 e1 e2) : (Jvm.Cond.methodLink "java/lang/String" (541 : Nat) ({ cls := "java/lang/StringLatin1", name := "equals", desc := "([B[B)Z" } : Jvm.MethodName)).before a0 Z = true := G.1 _ (List.mem_of_getElem? (i := 119) rfl)
theorem w120 {Z : State} {a0 : Array Value} {zC : Int32} {fS : Value} {cA : Addr} {e0 : Addr} {e1 : Addr} {e2 : Addr} (G : Gl Z a0 zC fS cA e0 e1 e2) : (Jvm.Cond.static ({ cls := "java/lang/StringLatin1", name := "equals", desc := "([B[B)Z" } : Jvm.MethodName)).before a0 Z = true := G.1 _ (List.mem_of_getElem? (i := 120) rfl)
theorem w121 {Z : State} {a0 : Array Value} {zC : Int32} {fS : Value} {cA : Addr} {e0 : Addr} {e1 : Addr} {e2 : Addr} (G : Gl Z a0 zC fS cA e0 e1 e2) : (Jvm.Cond.code ({ cls := "java/lang/StringLatin1", name := "equals", desc := "([B[B)Z" } : Jvm.MethodName) jdk_43_method_13_code (3 : Nat) (Option.some Jvm.ClassFile.FieldType.boolean)).before a0 Z = true := G.1 _ (List.mem_of_getElem? (i := 121) rfl)
theorem w122 {Z : State} {a0 : Array Value} {zC : Int32} {fS : Value} {cA : Addr} {e0 : Addr} {e1 : Addr} {e2 : Addr} (G : Gl Z a0 zC fS cA e0 e1 e2) : (Jvm.Cond.fieldLink "com/example/campo_grande/campogrande/ContentKeyEqualsPinLaw" (13 : Nat) "com/example/campo_grande/campogrande/SignatureAlgorithm" "SHA1" "Lcom/example/campo_grande/campogrande/SignatureAlgorithm;").before a0 Z = true := G.1 _ (List.mem_of_getElem? (i := 122) rfl)
theorem w124 {Z : State} {a0 : Array Value} {zC : Int32} {fS : Value} {cA : Addr} {e0 : Addr} {e1 : Addr} {e2 : Addr} (G : Gl Z a0 zC fS cA e0 e1 e2) : (Jvm.Cond.methodLink "com/example/campo_grande/campogrande/ContentKeyEqualsPinLaw" (44 : Nat) ({ cls := "java/lang/Integer", name := "valueOf", desc := "(I)Ljava/lang/Integer;" } : Jvm.MethodName)).before a0 Z = true := G.1 _ (List.mem_of_getElem? (i := 124) rfl)
theorem w125 {Z : State} {a0 : Array Value} {zC : Int32} {fS : Value} {cA : Addr} {e0 : Addr} {e1 : Addr} {e2 : Addr} (G : Gl Z a0 zC fS cA e0 e1 e2) : (Jvm.Cond.static ({ cls := "java/lang/Integer", name := "valueOf", desc := "(I)Ljava/lang/Integer;" } : Jvm.MethodName)).before a0 Z = true := G.1 _ (List.mem_of_getElem? (i := 125) rfl)
theorem w126 {Z : State} {a0 : Array Value} {zC : Int32} {fS : Value} {cA : Addr} {e0 : Addr} {e1 : Addr} {e2 : Addr} (G : Gl Z a0 zC fS cA e0 e1 e2) : (Jvm.Cond.initialized "java/lang/Integer").before a0 Z = true := G.1 _ (List.mem_of_getElem? (i := 126) rfl)
theorem w127 {Z : State} {a0 : Array Value} {zC : Int32} {fS : Value} {cA : Addr} {e0 : Addr} {e1 : Addr} {e2 : Addr} (G : Gl Z a0 zC fS cA e0 e1 e2) : (Jvm.Cond.code ({ cls := "java/lang/Integer", name := "valueOf", desc := "(I)Ljava/lang/Integer;" } : Jvm.MethodName) jdk_33_method_22_code (1 : Nat) (Option.some (Jvm.ClassFile.FieldType.object "java/lang/Integer"))).before a0 Z = true := G.1 _ (List.mem_of_getElem? (i := 127) rfl)
theorem w128 {Z : State} {a0 : Array Value} {zC : Int32} {fS : Value} {cA : Addr} {e0 : Addr} {e1 : Addr} {e2 : Addr} (G : Gl Z a0 zC fS cA e0 e1 e2) : (Jvm.Cond.fieldLink "java/lang/Integer" (191 : Nat) "java/lang/Integer$IntegerCache" "high" "I").before a0 Z = true := G.1 _ (List.mem_of_getElem? (i := 128) rfl)
theorem w130 {Z : State} {a0 : Array Value} {zC : Int32} {fS : Value} {cA : Addr} {e0 : Addr} {e1 : Addr} {e2 : Addr} (G : Gl Z a0 zC fS cA e0 e1 e2) : (Jvm.Cond.classLink "java/lang/Integer" (1 : Nat) "java/lang/Integer").before a0 Z = true := G.1 _ (List.mem_of_getElem? (i := 130) rfl)
theorem w131 {Z : State} {a0 : Array Value} {zC : Int32} {fS : Value} {cA : Addr} {e0 : Addr} {e1 : Addr} {e2 : Addr} (G : Gl Z a0 zC fS cA e0 e1 e2) : (Jvm.Cond.instantiable "java/lang/Integer" (1 : Nat)).before a0 Z = true := G.1 _ (List.mem_of_getElem? (i := 131) rfl)
theorem w132 {Z : State} {a0 : Array Value} {zC : Int32} {fS : Value} {cA : Addr} {e0 : Addr} {e1 : Addr} {e2 : Addr} (G : Gl Z a0 zC fS cA e0 e1 e2) : (Jvm.Cond.methodLink "java/lang/Integer" (199 : Nat) ({ cls := "java/lang/Integer", name := "<init>", desc := "(I)V" } : Jvm.MethodName)).before a0 Z = true := G.1 _ (List.mem_of_getElem? (i := 132) rfl)
theorem w133 {Z : State} {a0 : Array Value} {zC : Int32} {fS : Value} {cA : Addr} {e0 : Addr} {e1 : Addr} {e2 : Addr} (G : Gl Z a0 zC fS cA e0 e1 e2) : (Jvm.Cond.instanceMethod ({ cls := "java/lang/Integer", name := "<init>", desc := "(I)V" } : Jvm.MethodName)).before a0 Z = true := G.1 _ (List.mem_of_getElem? (i := 133) rfl)
theorem w135 {Z : State} {a0 : Array Value} {zC : Int32} {fS : Value} {cA : Addr} {e0 : Addr} {e1 : Addr} {e2 : Addr} (G : Gl Z a0 zC fS cA e0 e1 e2) : (Jvm.Cond.code ({ cls := "java/lang/Integer", name := "<init>", desc := "(I)V" } : Jvm.MethodName) jdk_33_method_23_code (2 : Nat) (Option.none : Option Jvm.ClassFile.FieldType)).before a0 Z = true := G.1 _ (List.mem_of_getElem? (i := 135) rfl)
theorem w136 {Z : State} {a0 : Array Value} {zC : Int32} {fS : Value} {cA : Addr} {e0 : Addr} {e1 : Addr} {e2 : Addr} (G : Gl Z a0 zC fS cA e0 e1 e2) : (Jvm.Cond.methodLink "java/lang/Integer" (202 : Nat) ({ cls := "java/lang/Number", name := "<init>", desc := "()V" } : Jvm.MethodName)).before a0 Z = true := G.1 _ (List.mem_of_getElem? (i := 136) rfl)
theorem w137 {Z : State} {a0 : Array Value} {zC : Int32} {fS : Value} {cA : Addr} {e0 : Addr} {e1 : Addr} {e2 : Addr} (G : Gl Z a0 zC fS cA e0 e1 e2) : (Jvm.Cond.instanceMethod ({ cls := "java/lang/Number", name := "<init>", desc := "()V" } : Jvm.MethodName)).before a0 Z = true := G.1 _ (List.mem_of_getElem? (i := 137) rfl)
theorem w140 {Z : State} {a0 : Array Value} {zC : Int32} {fS : Value} {cA : Addr} {e0 : Addr} {e1 : Addr} {e2 : Addr} (G : Gl Z a0 zC fS cA e0 e1 e2) : (Jvm.Cond.initialized "java/lang/Number").before a0 Z = true := G.1 _ (List.mem_of_getElem? (i := 140) rfl)
theorem w141 {Z : State} {a0 : Array Value} {zC : Int32} {fS : Value} {cA : Addr} {e0 : Addr} {e1 : Addr} {e2 : Addr} (G : Gl Z a0 zC fS cA e0 e1 e2) : (Jvm.Cond.code ({ cls := "java/lang/Number", name := "<init>", desc := "()V" } : Jvm.MethodName) jdk_18_method_1_code (1 : Nat) (Option.none : Option Jvm.ClassFile.FieldType)).before a0 Z = true := G.1 _ (List.mem_of_getElem? (i := 141) rfl)
theorem w142 {Z : State} {a0 : Array Value} {zC : Int32} {fS : Value} {cA : Addr} {e0 : Addr} {e1 : Addr} {e2 : Addr} (G : Gl Z a0 zC fS cA e0 e1 e2) : (Jvm.Cond.methodLink "java/lang/Number" (1 : Nat) ({ cls := "java/lang/Object", name := "<init>", desc := "()V" } : Jvm.MethodName)).before a0 Z = true := G.1 _ (List.mem_of_getElem? (i := 142) rfl)
theorem w143 {Z : State} {a0 : Array Value} {zC : Int32} {fS : Value} {cA : Addr} {e0 : Addr} {e1 : Addr} {e2 : Addr} (G : Gl Z a0 zC fS cA e0 e1 e2) : (Jvm.Cond.fieldLink "java/lang/Integer" (205 : Nat) "java/lang/Integer" "value" "I").before a0 Z = true := G.1 _ (List.mem_of_getElem? (i := 143) rfl)
theorem w144 {Z : State} {a0 : Array Value} {zC : Int32} {fS : Value} {cA : Addr} {e0 : Addr} {e1 : Addr} {e2 : Addr} (G : Gl Z a0 zC fS cA e0 e1 e2) : (Jvm.Cond.laysFinal "java/lang/Integer" "java/lang/Integer" "value" "I").before a0 Z = true := G.1 _ (List.mem_of_getElem? (i := 144) rfl)
theorem w145 {Z : State} {a0 : Array Value} {zC : Int32} {fS : Value} {cA : Addr} {e0 : Addr} {e1 : Addr} {e2 : Addr} (G : Gl Z a0 zC fS cA e0 e1 e2) : (Jvm.Cond.superclass "java/lang/Integer" "java/lang/Number").before a0 Z = true := G.1 _ (List.mem_of_getElem? (i := 145) rfl)
theorem w146 {Z : State} {a0 : Array Value} {zC : Int32} {fS : Value} {cA : Addr} {e0 : Addr} {e1 : Addr} {e2 : Addr} (G : Gl Z a0 zC fS cA e0 e1 e2) : (Jvm.Cond.superclass "java/lang/Number" "java/lang/Object").before a0 Z = true := G.1 _ (List.mem_of_getElem? (i := 146) rfl)
theorem w147 {Z : State} {a0 : Array Value} {zC : Int32} {fS : Value} {cA : Addr} {e0 : Addr} {e1 : Addr} {e2 : Addr} (G : Gl Z a0 zC fS cA e0 e1 e2) : (Jvm.Cond.noSuperclass "java/lang/Object").before a0 Z = true := G.1 _ (List.mem_of_getElem? (i := 147) rfl)
theorem w148 {Z : State} {a0 : Array Value} {zC : Int32} {fS : Value} {cA : Addr} {e0 : Addr} {e1 : Addr} {e2 : Addr} (G : Gl Z a0 zC fS cA e0 e1 e2) : (Jvm.Cond.fieldLink "java/lang/Integer" (195 : Nat) "java/lang/Integer$IntegerCache" "cache" "[Ljava/lang/Integer;").before a0 Z = true := G.1 _ (List.mem_of_getElem? (i := 148) rfl)
theorem w149 {Z : State} {a0 : Array Value} {zC : Int32} {fS : Value} {cA : Addr} {e0 : Addr} {e1 : Addr} {e2 : Addr} (G : Gl Z a0 zC fS cA e0 e1 e2) : (Jvm.Cond.fieldLink "com/example/campo_grande/campogrande/ContentKeyEqualsPinLaw" (16 : Nat) "com/example/campo_grande/campogrande/SignatureAlgorithm" "MD5" "Lcom/example/campo_grande/campogrande/SignatureAlgorithm;").before a0 Z = true := G.1 _ (List.mem_of_getElem? (i := 149) rfl)
theorem watoms {Z : State} {a0 : Array Value} {zC : Int32} {fS : Value} {cA : Addr} {e0 : Addr} {e1 : Addr} {e2 : Addr} (G : Gl Z a0 zC fS cA e0 e1 e2) : ∀ a ∈ Bundle.stringAtoms, a.before a0 Z = true := fun d hd => by
  simp only [Bundle.stringAtoms, List.mem_cons, List.not_mem_nil, or_false] at hd
  rcases hd with rfl | rfl | rfl | rfl | rfl | rfl | rfl
  · exact (w20 G)
  · exact (w19 G)
  · exact (w36 G)
  · exact (w46 G)
  · exact (w44 G)
  · exact (w52 G)
  · exact (w53 G)
theorem d_jdk_52_m21_3 : decode jdk_52_method_21_code 3 = .ok (.iload 5, 2) := by decide +kernel
theorem d_jdk_52_m21_5 : decode jdk_52_method_21_code 5 = .ok (.iload 4, 2) := by decide +kernel
theorem d_jdk_52_m21_7 : decode jdk_52_method_21_code 7 = .ok (.if_icmp .ge 37, 3) := by decide +kernel
theorem d_jdk_52_m21_44 : decode jdk_52_method_21_code 44 = .ok (.iload 4, 2) := by decide +kernel
theorem d_jdk_52_m21_46 : decode jdk_52_method_21_code 46 = .ok (.ireturn, 1) := by decide +kernel
theorem d_jdk_52_m21_10 : decode jdk_52_method_21_code 10 = .ok (.aload_n 0, 1) := by decide +kernel
theorem d_jdk_52_m21_11 : decode jdk_52_method_21_code 11 = .ok (.iload_n 1, 1) := by decide +kernel
theorem d_jdk_52_m21_12 : decode jdk_52_method_21_code 12 = .ok (.caload, 1) := by decide +kernel
theorem d_jdk_52_m21_13 : decode jdk_52_method_21_code 13 = .ok (.istore 6, 2) := by decide +kernel
theorem d_jdk_52_m21_15 : decode jdk_52_method_21_code 15 = .ok (.iload 6, 2) := by decide +kernel
theorem d_jdk_52_m21_17 : decode jdk_52_method_21_code 17 = .ok (.sipush 255, 3) := by decide +kernel
theorem d_jdk_52_m21_20 : decode jdk_52_method_21_code 20 = .ok (.if_icmp .le 6, 3) := by decide +kernel
theorem d_jdk_52_m21_26 : decode jdk_52_method_21_code 26 = .ok (.aload_n 2, 1) := by decide +kernel
theorem d_jdk_52_m21_27 : decode jdk_52_method_21_code 27 = .ok (.iload_n 3, 1) := by decide +kernel
theorem d_jdk_52_m21_28 : decode jdk_52_method_21_code 28 = .ok (.iload 6, 2) := by decide +kernel
theorem d_jdk_52_m21_30 : decode jdk_52_method_21_code 30 = .ok (.i2b, 1) := by decide +kernel
theorem d_jdk_52_m21_31 : decode jdk_52_method_21_code 31 = .ok (.bastore, 1) := by decide +kernel
theorem d_jdk_52_m21_32 : decode jdk_52_method_21_code 32 = .ok (.iinc 1 1, 3) := by decide +kernel
theorem d_jdk_52_m21_35 : decode jdk_52_method_21_code 35 = .ok (.iinc 3 1, 3) := by decide +kernel
theorem d_jdk_52_m21_38 : decode jdk_52_method_21_code 38 = .ok (.iinc 5 1, 3) := by decide +kernel
theorem d_jdk_52_m21_41 : decode jdk_52_method_21_code 41 = .ok (.goto (-38), 3) := by decide +kernel
theorem d_jdk_52_m21_0 : decode jdk_52_method_21_code 0 = .ok (.iconst 0, 1) := by decide +kernel
theorem d_jdk_52_m21_1 : decode jdk_52_method_21_code 1 = .ok (.istore 5, 2) := by decide +kernel
theorem pn0 : plainName "java/lang/StringUTF16" = true := by first | (simp [plainName, overriddenIn]; done) | decide +kernel
theorem d_jdk_52_m15_0 : decode jdk_52_method_15_code 0 = .ok (.iload_n 1, 1) := by decide +kernel
theorem d_jdk_52_m15_1 : decode jdk_52_method_15_code 1 = .ok (.aload_n 0, 1) := by decide +kernel
theorem d_jdk_52_m15_2 : decode jdk_52_method_15_code 2 = .ok (.arraylength, 1) := by decide +kernel
theorem d_jdk_52_m15_3 : decode jdk_52_method_15_code 3 = .ok (.isub, 1) := by decide +kernel
theorem d_jdk_52_m15_4 : decode jdk_52_method_15_code 4 = .ok (.bipush 31, 2) := by decide +kernel
theorem d_jdk_52_m15_6 : decode jdk_52_method_15_code 6 = .ok (.iushr, 1) := by decide +kernel
theorem d_jdk_52_m15_7 : decode jdk_52_method_15_code 7 = .ok (.i2b, 1) := by decide +kernel
theorem d_jdk_52_m15_8 : decode jdk_52_method_15_code 8 = .ok (.ireturn, 1) := by decide +kernel
theorem d_jdk_52_m16_0 : decode jdk_52_method_16_code 0 = .ok (.iload_n 2, 1) := by decide +kernel
theorem d_jdk_52_m16_1 : decode jdk_52_method_16_code 1 = .ok (.newarray .byte, 2) := by decide +kernel
theorem d_jdk_52_m16_3 : decode jdk_52_method_16_code 3 = .ok (.astore_n 3, 1) := by decide +kernel
theorem d_jdk_52_m16_4 : decode jdk_52_method_16_code 4 = .ok (.aload_n 0, 1) := by decide +kernel
theorem d_jdk_52_m16_5 : decode jdk_52_method_16_code 5 = .ok (.iload_n 1, 1) := by decide +kernel
theorem d_jdk_52_m16_6 : decode jdk_52_method_16_code 6 = .ok (.aload_n 3, 1) := by decide +kernel
theorem d_jdk_52_m16_7 : decode jdk_52_method_16_code 7 = .ok (.iconst 0, 1) := by decide +kernel
theorem d_jdk_52_m16_8 : decode jdk_52_method_16_code 8 = .ok (.iload_n 2, 1) := by decide +kernel
theorem d_jdk_52_m16_9 : decode jdk_52_method_16_code 9 = .ok (.invokestatic 115, 3) := by decide +kernel
theorem pd1 : parseMethodDescriptor "([CI[BII)I" = some ⟨[(.array .char), .int, (.array .byte), .int, .int], some .int⟩ := by decide +kernel
theorem d_jdk_52_m16_12 : decode jdk_52_method_16_code 12 = .ok (.istore 4, 2) := by decide +kernel
theorem d_jdk_52_m16_14 : decode jdk_52_method_16_code 14 = .ok (.iload 4, 2) := by decide +kernel
theorem d_jdk_52_m16_16 : decode jdk_52_method_16_code 16 = .ok (.iload_n 2, 1) := by decide +kernel
theorem d_jdk_52_m16_17 : decode jdk_52_method_16_code 17 = .ok (.if_icmp .eq 40, 3) := by decide +kernel
theorem d_jdk_52_m16_57 : decode jdk_52_method_16_code 57 = .ok (.aload_n 3, 1) := by decide +kernel
theorem d_jdk_52_m16_58 : decode jdk_52_method_16_code 58 = .ok (.areturn, 1) := by decide +kernel
theorem d_jdk_42_m149_0 : decode jdk_42_method_149_code 0 = .ok (.aload_n 0, 1) := by decide +kernel
theorem d_jdk_42_m149_1 : decode jdk_42_method_149_code 1 = .ok (.invokespecial 1, 3) := by decide +kernel
theorem d_jdk_42_m149_4 : decode jdk_42_method_149_code 4 = .ok (.iload_n 3, 1) := by decide +kernel
theorem d_jdk_42_m149_5 : decode jdk_42_method_149_code 5 = .ok (.ifCond .ne 22, 3) := by decide +kernel
theorem d_jdk_42_m149_27 : decode jdk_42_method_149_code 27 = .ok (.getstatic 38, 3) := by decide +kernel
theorem d_jdk_42_m149_30 : decode jdk_42_method_149_code 30 = .ok (.ifCond .eq 28, 3) := by decide +kernel
theorem d_jdk_42_m149_33 : decode jdk_42_method_149_code 33 = .ok (.aload_n 1, 1) := by decide +kernel
theorem d_jdk_42_m149_34 : decode jdk_42_method_149_code 34 = .ok (.iload_n 2, 1) := by decide +kernel
theorem d_jdk_42_m149_35 : decode jdk_42_method_149_code 35 = .ok (.iload_n 3, 1) := by decide +kernel
theorem d_jdk_42_m149_36 : decode jdk_42_method_149_code 36 = .ok (.invokestatic 177, 3) := by decide +kernel
theorem pd2 : parseMethodDescriptor "([CII)[B" = some ⟨[(.array .char), .int, .int], some (.array .byte)⟩ := by decide +kernel
theorem d_jdk_42_m149_39 : decode jdk_42_method_149_code 39 = .ok (.astore 5, 2) := by decide +kernel
theorem d_jdk_42_m149_41 : decode jdk_42_method_149_code 41 = .ok (.aload_n 0, 1) := by decide +kernel
theorem d_jdk_42_m149_42 : decode jdk_42_method_149_code 42 = .ok (.aload 5, 2) := by decide +kernel
theorem d_jdk_42_m149_44 : decode jdk_42_method_149_code 44 = .ok (.iload_n 3, 1) := by decide +kernel
theorem d_jdk_42_m149_45 : decode jdk_42_method_149_code 45 = .ok (.invokestatic 47, 3) := by decide +kernel
theorem pd3 : parseMethodDescriptor "([BI)B" = some ⟨[(.array .byte), .int], some .byte⟩ := by decide +kernel
theorem d_jdk_42_m149_48 : decode jdk_42_method_149_code 48 = .ok (.putfield 15, 3) := by decide +kernel
theorem d_jdk_42_m149_51 : decode jdk_42_method_149_code 51 = .ok (.aload_n 0, 1) := by decide +kernel
theorem d_jdk_42_m149_52 : decode jdk_42_method_149_code 52 = .ok (.aload 5, 2) := by decide +kernel
theorem d_jdk_42_m149_54 : decode jdk_42_method_149_code 54 = .ok (.putfield 9, 3) := by decide +kernel
theorem d_jdk_42_m149_57 : decode jdk_42_method_149_code 57 = .ok (.return_, 1) := by decide +kernel
theorem pn4 : plainName "java/lang/String" = true := by first | (simp [plainName, overriddenIn]; done) | decide +kernel
theorem d_jdk_42_m3_0 : decode jdk_42_method_3_code 0 = .ok (.aload_n 0, 1) := by decide +kernel
theorem d_jdk_42_m3_1 : decode jdk_42_method_3_code 1 = .ok (.aload_n 1, 1) := by decide +kernel
theorem d_jdk_42_m3_2 : decode jdk_42_method_3_code 2 = .ok (.iconst 0, 1) := by decide +kernel
theorem d_jdk_42_m3_3 : decode jdk_42_method_3_code 3 = .ok (.aload_n 1, 1) := by decide +kernel
theorem d_jdk_42_m3_4 : decode jdk_42_method_3_code 4 = .ok (.arraylength, 1) := by decide +kernel
theorem d_jdk_42_m3_5 : decode jdk_42_method_3_code 5 = .ok (.aconst_null, 1) := by decide +kernel
theorem d_jdk_42_m3_6 : decode jdk_42_method_3_code 6 = .ok (.invokespecial 27, 3) := by decide +kernel
theorem pd5 : parseMethodDescriptor "([CIILjava/lang/Void;)V" = some ⟨[(.array .char), .int, .int, (.object "java/lang/Void")], none⟩ := by decide +kernel
theorem d_jdk_42_m3_9 : decode jdk_42_method_3_code 9 = .ok (.return_, 1) := by decide +kernel
theorem d_jdk_42_m152_0 : decode jdk_42_method_152_code 0 = .ok (.getstatic 38, 3) := by decide +kernel
theorem d_jdk_42_m152_3 : decode jdk_42_method_152_code 3 = .ok (.ifCond .eq 10, 3) := by decide +kernel
theorem d_jdk_42_m152_6 : decode jdk_42_method_152_code 6 = .ok (.aload_n 0, 1) := by decide +kernel
theorem d_jdk_42_m152_7 : decode jdk_42_method_152_code 7 = .ok (.getfield 15, 3) := by decide +kernel
theorem d_jdk_42_m152_10 : decode jdk_42_method_152_code 10 = .ok (.goto 4, 3) := by decide +kernel
theorem d_jdk_42_m152_14 : decode jdk_42_method_152_code 14 = .ok (.ireturn, 1) := by decide +kernel
theorem d_jdk_42_m54_0 : decode jdk_42_method_54_code 0 = .ok (.aload_n 0, 1) := by decide +kernel
theorem d_jdk_42_m54_1 : decode jdk_42_method_54_code 1 = .ok (.getfield 9, 3) := by decide +kernel
theorem d_jdk_42_m54_4 : decode jdk_42_method_54_code 4 = .ok (.arraylength, 1) := by decide +kernel
theorem d_jdk_42_m54_5 : decode jdk_42_method_54_code 5 = .ok (.aload_n 0, 1) := by decide +kernel
theorem d_jdk_42_m54_6 : decode jdk_42_method_54_code 6 = .ok (.invokevirtual 335, 3) := by decide +kernel
theorem pd6 : parseMethodDescriptor "()B" = some ⟨[], some .byte⟩ := by decide +kernel
theorem d_jdk_42_m54_9 : decode jdk_42_method_54_code 9 = .ok (.ishr, 1) := by decide +kernel
theorem d_jdk_42_m54_10 : decode jdk_42_method_54_code 10 = .ok (.ireturn, 1) := by decide +kernel
theorem d_jdk_42_m154_0 : decode jdk_42_method_154_code 0 = .ok (.getstatic 38, 3) := by decide +kernel
theorem d_jdk_42_m154_3 : decode jdk_42_method_154_code 3 = .ok (.ifCond .eq 14, 3) := by decide +kernel
theorem d_jdk_42_m154_6 : decode jdk_42_method_154_code 6 = .ok (.aload_n 0, 1) := by decide +kernel
theorem d_jdk_42_m154_7 : decode jdk_42_method_154_code 7 = .ok (.getfield 15, 3) := by decide +kernel
theorem d_jdk_42_m154_10 : decode jdk_42_method_154_code 10 = .ok (.ifCond .ne 7, 3) := by decide +kernel
theorem d_jdk_42_m154_13 : decode jdk_42_method_154_code 13 = .ok (.iconst 1, 1) := by decide +kernel
theorem d_jdk_42_m154_14 : decode jdk_42_method_154_code 14 = .ok (.goto 4, 3) := by decide +kernel
theorem d_jdk_42_m154_18 : decode jdk_42_method_154_code 18 = .ok (.ireturn, 1) := by decide +kernel
theorem d_jdk_41_m11_0 : decode jdk_41_method_11_code 0 = .ok (.iload_n 0, 1) := by decide +kernel
theorem d_jdk_41_m11_1 : decode jdk_41_method_11_code 1 = .ok (.ifCond .lt 8, 3) := by decide +kernel
theorem d_jdk_41_m11_4 : decode jdk_41_method_11_code 4 = .ok (.iload_n 0, 1) := by decide +kernel
theorem d_jdk_41_m11_5 : decode jdk_41_method_11_code 5 = .ok (.iload_n 1, 1) := by decide +kernel
theorem d_jdk_41_m11_6 : decode jdk_41_method_11_code 6 = .ok (.if_icmp .lt 10, 3) := by decide +kernel
theorem d_jdk_41_m11_16 : decode jdk_41_method_11_code 16 = .ok (.iload_n 0, 1) := by decide +kernel
theorem d_jdk_41_m11_17 : decode jdk_41_method_11_code 17 = .ok (.ireturn, 1) := by decide +kernel
theorem pn7 : plainName "jdk/internal/util/Preconditions" = true := by first | (simp [plainName, overriddenIn]; done) | decide +kernel
theorem d_jdk_42_m155_0 : decode jdk_42_method_155_code 0 = .ok (.iload_n 0, 1) := by decide +kernel
theorem d_jdk_42_m155_1 : decode jdk_42_method_155_code 1 = .ok (.iload_n 1, 1) := by decide +kernel
theorem d_jdk_42_m155_2 : decode jdk_42_method_155_code 2 = .ok (.getstatic 1053, 3) := by decide +kernel
theorem d_jdk_42_m155_5 : decode jdk_42_method_155_code 5 = .ok (.invokestatic 1059, 3) := by decide +kernel
theorem pd8 : parseMethodDescriptor "(IILjava/util/function/BiFunction;)I" = some ⟨[.int, .int, (.object "java/util/function/BiFunction")], some .int⟩ := by decide +kernel
theorem d_jdk_42_m155_8 : decode jdk_42_method_155_code 8 = .ok (.pop, 1) := by decide +kernel
theorem d_jdk_42_m155_9 : decode jdk_42_method_155_code 9 = .ok (.return_, 1) := by decide +kernel
theorem d_jdk_43_m2_0 : decode jdk_43_method_2_code 0 = .ok (.iload_n 1, 1) := by decide +kernel
theorem d_jdk_43_m2_1 : decode jdk_43_method_2_code 1 = .ok (.aload_n 0, 1) := by decide +kernel
theorem d_jdk_43_m2_2 : decode jdk_43_method_2_code 2 = .ok (.arraylength, 1) := by decide +kernel
theorem d_jdk_43_m2_3 : decode jdk_43_method_2_code 3 = .ok (.invokestatic 9, 3) := by decide +kernel
theorem pd9 : parseMethodDescriptor "(II)V" = some ⟨[.int, .int], none⟩ := by decide +kernel
theorem d_jdk_43_m2_6 : decode jdk_43_method_2_code 6 = .ok (.aload_n 0, 1) := by decide +kernel
theorem d_jdk_43_m2_7 : decode jdk_43_method_2_code 7 = .ok (.iload_n 1, 1) := by decide +kernel
theorem d_jdk_43_m2_8 : decode jdk_43_method_2_code 8 = .ok (.baload, 1) := by decide +kernel
theorem d_jdk_43_m2_9 : decode jdk_43_method_2_code 9 = .ok (.sipush 255, 3) := by decide +kernel
theorem d_jdk_43_m2_12 : decode jdk_43_method_2_code 12 = .ok (.iand, 1) := by decide +kernel
theorem d_jdk_43_m2_13 : decode jdk_43_method_2_code 13 = .ok (.i2c, 1) := by decide +kernel
theorem d_jdk_43_m2_14 : decode jdk_43_method_2_code 14 = .ok (.ireturn, 1) := by decide +kernel
theorem pn10 : plainName "java/lang/StringLatin1" = true := by first | (simp [plainName, overriddenIn]; done) | decide +kernel
theorem d_jdk_42_m56_0 : decode jdk_42_method_56_code 0 = .ok (.aload_n 0, 1) := by decide +kernel
theorem d_jdk_42_m56_1 : decode jdk_42_method_56_code 1 = .ok (.invokevirtual 492, 3) := by decide +kernel
theorem pd11 : parseMethodDescriptor "()Z" = some ⟨[], some .boolean⟩ := by decide +kernel
theorem d_jdk_42_m56_4 : decode jdk_42_method_56_code 4 = .ok (.ifCond .eq 12, 3) := by decide +kernel
theorem d_jdk_42_m56_7 : decode jdk_42_method_56_code 7 = .ok (.aload_n 0, 1) := by decide +kernel
theorem d_jdk_42_m56_8 : decode jdk_42_method_56_code 8 = .ok (.getfield 9, 3) := by decide +kernel
theorem d_jdk_42_m56_11 : decode jdk_42_method_56_code 11 = .ok (.iload_n 1, 1) := by decide +kernel
theorem d_jdk_42_m56_12 : decode jdk_42_method_56_code 12 = .ok (.invokestatic 495, 3) := by decide +kernel
theorem pd12 : parseMethodDescriptor "([BI)C" = some ⟨[(.array .byte), .int], some .char⟩ := by decide +kernel
theorem d_jdk_42_m56_15 : decode jdk_42_method_56_code 15 = .ok (.ireturn, 1) := by decide +kernel
theorem d_jdk_43_m13_0 : decode jdk_43_method_13_code 0 = .ok (.aload_n 0, 1) := by decide +kernel
theorem d_jdk_43_m13_1 : decode jdk_43_method_13_code 1 = .ok (.arraylength, 1) := by decide +kernel
theorem d_jdk_43_m13_2 : decode jdk_43_method_13_code 2 = .ok (.aload_n 1, 1) := by decide +kernel
theorem d_jdk_43_m13_3 : decode jdk_43_method_13_code 3 = .ok (.arraylength, 1) := by decide +kernel
theorem d_jdk_43_m13_4 : decode jdk_43_method_13_code 4 = .ok (.if_icmp .ne 30, 3) := by decide +kernel
theorem d_jdk_43_m13_7 : decode jdk_43_method_13_code 7 = .ok (.iconst 0, 1) := by decide +kernel
theorem d_jdk_43_m13_8 : decode jdk_43_method_13_code 8 = .ok (.istore_n 2, 1) := by decide +kernel
theorem d_jdk_43_m13_9 : decode jdk_43_method_13_code 9 = .ok (.iload_n 2, 1) := by decide +kernel
theorem d_jdk_43_m13_10 : decode jdk_43_method_13_code 10 = .ok (.aload_n 0, 1) := by decide +kernel
theorem d_jdk_43_m13_11 : decode jdk_43_method_13_code 11 = .ok (.arraylength, 1) := by decide +kernel
theorem d_jdk_43_m13_12 : decode jdk_43_method_13_code 12 = .ok (.if_icmp .ge 20, 3) := by decide +kernel
theorem d_jdk_43_m13_32 : decode jdk_43_method_13_code 32 = .ok (.iconst 1, 1) := by decide +kernel
theorem d_jdk_43_m13_33 : decode jdk_43_method_13_code 33 = .ok (.ireturn, 1) := by decide +kernel
theorem d_jdk_43_m13_15 : decode jdk_43_method_13_code 15 = .ok (.aload_n 0, 1) := by decide +kernel
theorem d_jdk_43_m13_16 : decode jdk_43_method_13_code 16 = .ok (.iload_n 2, 1) := by decide +kernel
theorem d_jdk_43_m13_17 : decode jdk_43_method_13_code 17 = .ok (.baload, 1) := by decide +kernel
theorem d_jdk_43_m13_18 : decode jdk_43_method_13_code 18 = .ok (.aload_n 1, 1) := by decide +kernel
theorem d_jdk_43_m13_19 : decode jdk_43_method_13_code 19 = .ok (.iload_n 2, 1) := by decide +kernel
theorem d_jdk_43_m13_20 : decode jdk_43_method_13_code 20 = .ok (.baload, 1) := by decide +kernel
theorem d_jdk_43_m13_21 : decode jdk_43_method_13_code 21 = .ok (.if_icmp .eq 5, 3) := by decide +kernel
theorem d_jdk_43_m13_26 : decode jdk_43_method_13_code 26 = .ok (.iinc 2 1, 3) := by decide +kernel
theorem d_jdk_43_m13_29 : decode jdk_43_method_13_code 29 = .ok (.goto (-20), 3) := by decide +kernel
theorem d_jdk_43_m13_24 : decode jdk_43_method_13_code 24 = .ok (.iconst 0, 1) := by decide +kernel
theorem d_jdk_43_m13_25 : decode jdk_43_method_13_code 25 = .ok (.ireturn, 1) := by decide +kernel
theorem d_jdk_43_m13_34 : decode jdk_43_method_13_code 34 = .ok (.iconst 0, 1) := by decide +kernel
theorem d_jdk_43_m13_35 : decode jdk_43_method_13_code 35 = .ok (.ireturn, 1) := by decide +kernel
theorem d_jdk_42_m66_0 : decode jdk_42_method_66_code 0 = .ok (.aload_n 0, 1) := by decide +kernel
theorem d_jdk_42_m66_1 : decode jdk_42_method_66_code 1 = .ok (.aload_n 1, 1) := by decide +kernel
theorem d_jdk_42_m66_2 : decode jdk_42_method_66_code 2 = .ok (.if_acmp .ne 5, 3) := by decide +kernel
theorem d_jdk_42_m66_7 : decode jdk_42_method_66_code 7 = .ok (.aload_n 1, 1) := by decide +kernel
theorem d_jdk_42_m66_8 : decode jdk_42_method_66_code 8 = .ok (.instanceof 10, 3) := by decide +kernel
theorem d_jdk_42_m66_11 : decode jdk_42_method_66_code 11 = .ok (.ifCond .eq 43, 3) := by decide +kernel
theorem d_jdk_42_m66_14 : decode jdk_42_method_66_code 14 = .ok (.aload_n 1, 1) := by decide +kernel
theorem d_jdk_42_m66_15 : decode jdk_42_method_66_code 15 = .ok (.checkcast 10, 3) := by decide +kernel
theorem d_jdk_42_m66_18 : decode jdk_42_method_66_code 18 = .ok (.astore_n 2, 1) := by decide +kernel
theorem d_jdk_42_m66_19 : decode jdk_42_method_66_code 19 = .ok (.getstatic 38, 3) := by decide +kernel
theorem d_jdk_42_m66_22 : decode jdk_42_method_66_code 22 = .ok (.ifCond .eq 14, 3) := by decide +kernel
theorem d_jdk_42_m66_25 : decode jdk_42_method_66_code 25 = .ok (.aload_n 0, 1) := by decide +kernel
theorem d_jdk_42_m66_26 : decode jdk_42_method_66_code 26 = .ok (.getfield 15, 3) := by decide +kernel
theorem d_jdk_42_m66_29 : decode jdk_42_method_66_code 29 = .ok (.aload_n 2, 1) := by decide +kernel
theorem d_jdk_42_m66_30 : decode jdk_42_method_66_code 30 = .ok (.getfield 15, 3) := by decide +kernel
theorem d_jdk_42_m66_33 : decode jdk_42_method_66_code 33 = .ok (.if_icmp .ne 21, 3) := by decide +kernel
theorem d_jdk_42_m66_36 : decode jdk_42_method_66_code 36 = .ok (.aload_n 0, 1) := by decide +kernel
theorem d_jdk_42_m66_37 : decode jdk_42_method_66_code 37 = .ok (.getfield 9, 3) := by decide +kernel
theorem d_jdk_42_m66_40 : decode jdk_42_method_66_code 40 = .ok (.aload_n 2, 1) := by decide +kernel
theorem d_jdk_42_m66_41 : decode jdk_42_method_66_code 41 = .ok (.getfield 9, 3) := by decide +kernel
theorem d_jdk_42_m66_44 : decode jdk_42_method_66_code 44 = .ok (.invokestatic 541, 3) := by decide +kernel
theorem pd13 : parseMethodDescriptor "([B[B)Z" = some ⟨[(.array .byte), (.array .byte)], some .boolean⟩ := by decide +kernel
theorem d_jdk_42_m66_47 : decode jdk_42_method_66_code 47 = .ok (.ifCond .eq 7, 3) := by decide +kernel
theorem d_jdk_42_m66_54 : decode jdk_42_method_66_code 54 = .ok (.iconst 0, 1) := by decide +kernel
theorem d_jdk_42_m66_55 : decode jdk_42_method_66_code 55 = .ok (.ireturn, 1) := by decide +kernel
theorem d_jdk_42_m66_50 : decode jdk_42_method_66_code 50 = .ok (.iconst 1, 1) := by decide +kernel
theorem d_jdk_42_m66_51 : decode jdk_42_method_66_code 51 = .ok (.goto 4, 3) := by decide +kernel
theorem d_jdk_42_m66_5 : decode jdk_42_method_66_code 5 = .ok (.iconst 1, 1) := by decide +kernel
theorem d_jdk_42_m66_6 : decode jdk_42_method_66_code 6 = .ok (.ireturn, 1) := by decide +kernel
theorem d_jdk_31_m11_0 : decode jdk_31_method_11_code 0 = .ok (.aload_n 0, 1) := by decide +kernel
theorem d_jdk_31_m11_1 : decode jdk_31_method_11_code 1 = .ok (.ifnonnull 12, 3) := by decide +kernel
theorem d_jdk_31_m11_13 : decode jdk_31_method_11_code 13 = .ok (.aload_n 0, 1) := by decide +kernel
theorem d_jdk_31_m11_14 : decode jdk_31_method_11_code 14 = .ok (.areturn, 1) := by decide +kernel
theorem pn14 : plainName "java/util/Objects" = true := by first | (simp [plainName, overriddenIn]; done) | decide +kernel
theorem d_prog_25_m6_0 : decode prog_25_method_6_code 0 = .ok (.aload_n 1, 1) := by decide +kernel
theorem d_prog_25_m6_1 : decode prog_25_method_6_code 1 = .ok (.invokevirtual 60, 3) := by decide +kernel
theorem pd15 : parseMethodDescriptor "()I" = some ⟨[], some .int⟩ := by decide +kernel
theorem d_prog_25_m6_4 : decode prog_25_method_6_code 4 = .ok (.iconst 2, 1) := by decide +kernel
theorem d_prog_25_m6_5 : decode prog_25_method_6_code 5 = .ok (.aload_n 0, 1) := by decide +kernel
theorem d_prog_25_m6_6 : decode prog_25_method_6_code 6 = .ok (.getfield 39, 3) := by decide +kernel
theorem d_prog_25_m6_9 : decode prog_25_method_6_code 9 = .ok (.imul, 1) := by decide +kernel
theorem d_prog_25_m6_10 : decode prog_25_method_6_code 10 = .ok (.if_icmp .eq 5, 3) := by decide +kernel
theorem d_prog_25_m6_15 : decode prog_25_method_6_code 15 = .ok (.iconst 0, 1) := by decide +kernel
theorem d_prog_25_m6_16 : decode prog_25_method_6_code 16 = .ok (.istore_n 2, 1) := by decide +kernel
theorem d_prog_25_m6_17 : decode prog_25_method_6_code 17 = .ok (.iload_n 2, 1) := by decide +kernel
theorem d_prog_25_m6_18 : decode prog_25_method_6_code 18 = .ok (.aload_n 1, 1) := by decide +kernel
theorem d_prog_25_m6_19 : decode prog_25_method_6_code 19 = .ok (.invokevirtual 60, 3) := by decide +kernel
theorem d_prog_25_m6_22 : decode prog_25_method_6_code 22 = .ok (.if_icmp .ge 41, 3) := by decide +kernel
theorem d_prog_25_m6_63 : decode prog_25_method_6_code 63 = .ok (.iconst 1, 1) := by decide +kernel
theorem d_prog_25_m6_64 : decode prog_25_method_6_code 64 = .ok (.ireturn, 1) := by decide +kernel
theorem d_prog_25_m6_25 : decode prog_25_method_6_code 25 = .ok (.aload_n 1, 1) := by decide +kernel
theorem d_prog_25_m6_26 : decode prog_25_method_6_code 26 = .ok (.iload_n 2, 1) := by decide +kernel
theorem d_prog_25_m6_27 : decode prog_25_method_6_code 27 = .ok (.invokevirtual 64, 3) := by decide +kernel
theorem pd16 : parseMethodDescriptor "(I)C" = some ⟨[.int], some .char⟩ := by decide +kernel
theorem d_prog_25_m6_30 : decode prog_25_method_6_code 30 = .ok (.istore_n 3, 1) := by decide +kernel
theorem d_prog_25_m6_31 : decode prog_25_method_6_code 31 = .ok (.iload_n 3, 1) := by decide +kernel
theorem d_prog_25_m6_32 : decode prog_25_method_6_code 32 = .ok (.bipush 48, 2) := by decide +kernel
theorem d_prog_25_m6_34 : decode prog_25_method_6_code 34 = .ok (.if_icmp .lt 9, 3) := by decide +kernel
theorem d_prog_25_m6_43 : decode prog_25_method_6_code 43 = .ok (.iload_n 3, 1) := by decide +kernel
theorem d_prog_25_m6_44 : decode prog_25_method_6_code 44 = .ok (.bipush 97, 2) := by decide +kernel
theorem d_prog_25_m6_46 : decode prog_25_method_6_code 46 = .ok (.if_icmp .lt 9, 3) := by decide +kernel
theorem d_prog_25_m6_49 : decode prog_25_method_6_code 49 = .ok (.iload_n 3, 1) := by decide +kernel
theorem d_prog_25_m6_50 : decode prog_25_method_6_code 50 = .ok (.bipush 102, 2) := by decide +kernel
theorem d_prog_25_m6_52 : decode prog_25_method_6_code 52 = .ok (.if_icmp .le 5, 3) := by decide +kernel
theorem d_prog_25_m6_57 : decode prog_25_method_6_code 57 = .ok (.iinc 2 1, 3) := by decide +kernel
theorem d_prog_25_m6_60 : decode prog_25_method_6_code 60 = .ok (.goto (-43), 3) := by decide +kernel
theorem d_prog_25_m6_37 : decode prog_25_method_6_code 37 = .ok (.iload_n 3, 1) := by decide +kernel
theorem d_prog_25_m6_38 : decode prog_25_method_6_code 38 = .ok (.bipush 57, 2) := by decide +kernel
theorem d_prog_25_m6_40 : decode prog_25_method_6_code 40 = .ok (.if_icmp .le 17, 3) := by decide +kernel
theorem pn17 : plainName "com/example/campo_grande/campogrande/SignatureAlgorithm" = true := by first | (simp [plainName, overriddenIn]; done) | decide +kernel
theorem d_prog_13_m1_0 : decode prog_13_method_1_code 0 = .ok (.aload_n 0, 1) := by decide +kernel
theorem d_prog_13_m1_1 : decode prog_13_method_1_code 1 = .ok (.invokespecial 1, 3) := by decide +kernel
theorem d_prog_13_m1_4 : decode prog_13_method_1_code 4 = .ok (.aload_n 2, 1) := by decide +kernel
theorem d_prog_13_m1_5 : decode prog_13_method_1_code 5 = .ok (.ldc 7, 2) := by decide +kernel
theorem d_prog_13_m1_7 : decode prog_13_method_1_code 7 = .ok (.invokestatic 9, 3) := by decide +kernel
theorem pd18 : parseMethodDescriptor "(Ljava/lang/Object;Ljava/lang/String;)Ljava/lang/Object;" = some ⟨[(.object "java/lang/Object"), (.object "java/lang/String")], some (.object "java/lang/Object")⟩ := by decide +kernel
theorem d_prog_13_m1_10 : decode prog_13_method_1_code 10 = .ok (.pop, 1) := by decide +kernel
theorem d_prog_13_m1_11 : decode prog_13_method_1_code 11 = .ok (.aload_n 3, 1) := by decide +kernel
theorem d_prog_13_m1_12 : decode prog_13_method_1_code 12 = .ok (.ldc 15, 2) := by decide +kernel
theorem d_prog_13_m1_14 : decode prog_13_method_1_code 14 = .ok (.invokestatic 9, 3) := by decide +kernel
theorem d_prog_13_m1_17 : decode prog_13_method_1_code 17 = .ok (.pop, 1) := by decide +kernel
theorem d_prog_13_m1_18 : decode prog_13_method_1_code 18 = .ok (.iload_n 1, 1) := by decide +kernel
theorem d_prog_13_m1_19 : decode prog_13_method_1_code 19 = .ok (.ifCond .ge 9, 3) := by decide +kernel
theorem d_prog_13_m1_28 : decode prog_13_method_1_code 28 = .ok (.aload_n 2, 1) := by decide +kernel
theorem d_prog_13_m1_29 : decode prog_13_method_1_code 29 = .ok (.aload_n 3, 1) := by decide +kernel
theorem d_prog_13_m1_30 : decode prog_13_method_1_code 30 = .ok (.invokevirtual 25, 3) := by decide +kernel
theorem pd19 : parseMethodDescriptor "(Ljava/lang/String;)Z" = some ⟨[(.object "java/lang/String")], some .boolean⟩ := by decide +kernel
theorem d_prog_13_m1_33 : decode prog_13_method_1_code 33 = .ok (.ifCond .ne 22, 3) := by decide +kernel
theorem d_prog_13_m1_55 : decode prog_13_method_1_code 55 = .ok (.iload 4, 2) := by decide +kernel
theorem d_prog_13_m1_57 : decode prog_13_method_1_code 57 = .ok (.ifCond .ge 9, 3) := by decide +kernel
theorem d_prog_13_m1_66 : decode prog_13_method_1_code 66 = .ok (.aload_n 0, 1) := by decide +kernel
theorem d_prog_13_m1_67 : decode prog_13_method_1_code 67 = .ok (.iload_n 1, 1) := by decide +kernel
theorem d_prog_13_m1_68 : decode prog_13_method_1_code 68 = .ok (.putfield 47, 3) := by decide +kernel
theorem d_prog_13_m1_71 : decode prog_13_method_1_code 71 = .ok (.aload_n 0, 1) := by decide +kernel
theorem d_prog_13_m1_72 : decode prog_13_method_1_code 72 = .ok (.aload_n 2, 1) := by decide +kernel
theorem d_prog_13_m1_73 : decode prog_13_method_1_code 73 = .ok (.putfield 51, 3) := by decide +kernel
theorem d_prog_13_m1_76 : decode prog_13_method_1_code 76 = .ok (.aload_n 0, 1) := by decide +kernel
theorem d_prog_13_m1_77 : decode prog_13_method_1_code 77 = .ok (.aload_n 3, 1) := by decide +kernel
theorem d_prog_13_m1_78 : decode prog_13_method_1_code 78 = .ok (.putfield 54, 3) := by decide +kernel
theorem d_prog_13_m1_81 : decode prog_13_method_1_code 81 = .ok (.aload_n 0, 1) := by decide +kernel
theorem d_prog_13_m1_82 : decode prog_13_method_1_code 82 = .ok (.iload 4, 2) := by decide +kernel
theorem d_prog_13_m1_84 : decode prog_13_method_1_code 84 = .ok (.putfield 57, 3) := by decide +kernel
theorem d_prog_13_m1_87 : decode prog_13_method_1_code 87 = .ok (.return_, 1) := by decide +kernel
theorem pn20 : plainName "com/example/campo_grande/campogrande/ContentKey" = true := by first | (simp [plainName, overriddenIn]; done) | decide +kernel
theorem d_jdk_18_m1_0 : decode jdk_18_method_1_code 0 = .ok (.aload_n 0, 1) := by decide +kernel
theorem d_jdk_18_m1_1 : decode jdk_18_method_1_code 1 = .ok (.invokespecial 1, 3) := by decide +kernel
theorem d_jdk_18_m1_4 : decode jdk_18_method_1_code 4 = .ok (.return_, 1) := by decide +kernel
theorem pn21 : plainName "java/lang/Number" = true := by first | (simp [plainName, overriddenIn]; done) | decide +kernel
theorem d_jdk_33_m23_0 : decode jdk_33_method_23_code 0 = .ok (.aload_n 0, 1) := by decide +kernel
theorem d_jdk_33_m23_1 : decode jdk_33_method_23_code 1 = .ok (.invokespecial 202, 3) := by decide +kernel
theorem pd22 : parseMethodDescriptor "()V" = some ⟨[], none⟩ := by decide +kernel
theorem d_jdk_33_m23_4 : decode jdk_33_method_23_code 4 = .ok (.aload_n 0, 1) := by decide +kernel
theorem d_jdk_33_m23_5 : decode jdk_33_method_23_code 5 = .ok (.iload_n 1, 1) := by decide +kernel
theorem d_jdk_33_m23_6 : decode jdk_33_method_23_code 6 = .ok (.putfield 205, 3) := by decide +kernel
theorem d_jdk_33_m23_9 : decode jdk_33_method_23_code 9 = .ok (.return_, 1) := by decide +kernel
theorem pn23 : plainName "java/lang/Integer" = true := by first | (simp [plainName, overriddenIn]; done) | decide +kernel
theorem d_jdk_33_m22_0 : decode jdk_33_method_22_code 0 = .ok (.iload_n 0, 1) := by decide +kernel
theorem d_jdk_33_m22_1 : decode jdk_33_method_22_code 1 = .ok (.bipush (-128), 2) := by decide +kernel
theorem d_jdk_33_m22_3 : decode jdk_33_method_22_code 3 = .ok (.if_icmp .lt 20, 3) := by decide +kernel
theorem d_jdk_33_m22_23 : decode jdk_33_method_22_code 23 = .ok (.new 1, 3) := by decide +kernel
theorem d_jdk_33_m22_26 : decode jdk_33_method_22_code 26 = .ok (.dup, 1) := by decide +kernel
theorem d_jdk_33_m22_27 : decode jdk_33_method_22_code 27 = .ok (.iload_n 0, 1) := by decide +kernel
theorem d_jdk_33_m22_28 : decode jdk_33_method_22_code 28 = .ok (.invokespecial 199, 3) := by decide +kernel
theorem pd24 : parseMethodDescriptor "(I)V" = some ⟨[.int], none⟩ := by decide +kernel
theorem d_jdk_33_m22_31 : decode jdk_33_method_22_code 31 = .ok (.areturn, 1) := by decide +kernel
theorem d_jdk_33_m22_6 : decode jdk_33_method_22_code 6 = .ok (.iload_n 0, 1) := by decide +kernel
theorem d_jdk_33_m22_7 : decode jdk_33_method_22_code 7 = .ok (.getstatic 191, 3) := by decide +kernel
theorem d_jdk_33_m22_10 : decode jdk_33_method_22_code 10 = .ok (.if_icmp .gt 13, 3) := by decide +kernel
theorem d_jdk_33_m22_13 : decode jdk_33_method_22_code 13 = .ok (.getstatic 195, 3) := by decide +kernel
theorem d_jdk_33_m22_16 : decode jdk_33_method_22_code 16 = .ok (.iload_n 0, 1) := by decide +kernel
theorem d_jdk_33_m22_17 : decode jdk_33_method_22_code 17 = .ok (.sipush 128, 3) := by decide +kernel
theorem d_jdk_33_m22_20 : decode jdk_33_method_22_code 20 = .ok (.iadd, 1) := by decide +kernel
theorem d_jdk_33_m22_21 : decode jdk_33_method_22_code 21 = .ok (.aaload, 1) := by decide +kernel
theorem d_jdk_33_m22_22 : decode jdk_33_method_22_code 22 = .ok (.areturn, 1) := by decide +kernel
theorem d_m3_0 : decode method_3_code 0 = .ok (.iload_n 0, 1) := by decide +kernel
theorem d_m3_1 : decode method_3_code 1 = .ok (.bipush 15, 2) := by decide +kernel
theorem d_m3_3 : decode method_3_code 3 = .ok (.iand, 1) := by decide +kernel
theorem d_m3_4 : decode method_3_code 4 = .ok (.istore_n 1, 1) := by decide +kernel
theorem d_m3_5 : decode method_3_code 5 = .ok (.iload_n 1, 1) := by decide +kernel
theorem d_m3_6 : decode method_3_code 6 = .ok (.bipush 10, 2) := by decide +kernel
theorem d_m3_8 : decode method_3_code 8 = .ok (.if_icmp .ge 10, 3) := by decide +kernel
theorem d_m3_11 : decode method_3_code 11 = .ok (.bipush 48, 2) := by decide +kernel
theorem d_m3_13 : decode method_3_code 13 = .ok (.iload_n 1, 1) := by decide +kernel
theorem d_m3_14 : decode method_3_code 14 = .ok (.iadd, 1) := by decide +kernel
theorem d_m3_15 : decode method_3_code 15 = .ok (.goto 10, 3) := by decide +kernel
theorem d_m3_25 : decode method_3_code 25 = .ok (.i2c, 1) := by decide +kernel
theorem d_m3_26 : decode method_3_code 26 = .ok (.ireturn, 1) := by decide +kernel
theorem d_m3_18 : decode method_3_code 18 = .ok (.bipush 97, 2) := by decide +kernel
theorem d_m3_20 : decode method_3_code 20 = .ok (.iload_n 1, 1) := by decide +kernel
theorem d_m3_21 : decode method_3_code 21 = .ok (.iadd, 1) := by decide +kernel
theorem d_m3_22 : decode method_3_code 22 = .ok (.bipush 10, 2) := by decide +kernel
theorem d_m3_24 : decode method_3_code 24 = .ok (.isub, 1) := by decide +kernel
theorem pn25 : plainName "com/example/campo_grande/campogrande/ContentKeyEqualsPinLaw" = true := by first | (simp [plainName, overriddenIn]; done) | decide +kernel
theorem d_m2_0 : decode method_2_code 0 = .ok (.iload_n 0, 1) := by decide +kernel
theorem d_m2_1 : decode method_2_code 1 = .ok (.ifCond .ne 7, 3) := by decide +kernel
theorem d_m2_4 : decode method_2_code 4 = .ok (.getstatic 7, 3) := by decide +kernel
theorem d_m2_7 : decode method_2_code 7 = .ok (.areturn, 1) := by decide +kernel
theorem d_m2_8 : decode method_2_code 8 = .ok (.iload_n 0, 1) := by decide +kernel
theorem d_m2_9 : decode method_2_code 9 = .ok (.iconst 1, 1) := by decide +kernel
theorem d_m2_10 : decode method_2_code 10 = .ok (.if_icmp .ne 7, 3) := by decide +kernel
theorem d_m2_13 : decode method_2_code 13 = .ok (.getstatic 13, 3) := by decide +kernel
theorem d_m2_16 : decode method_2_code 16 = .ok (.areturn, 1) := by decide +kernel
theorem d_m2_17 : decode method_2_code 17 = .ok (.getstatic 16, 3) := by decide +kernel
theorem d_m2_20 : decode method_2_code 20 = .ok (.areturn, 1) := by decide +kernel
theorem d_m4_0 : decode method_4_code 0 = .ok (.iload_n 0, 1) := by decide +kernel
theorem d_m4_1 : decode method_4_code 1 = .ok (.ifCond .ne 389, 3) := by decide +kernel
theorem d_m4_4 : decode method_4_code 4 = .ok (.bipush 64, 2) := by decide +kernel
theorem d_m4_6 : decode method_4_code 6 = .ok (.newarray .char, 2) := by decide +kernel
theorem d_m4_8 : decode method_4_code 8 = .ok (.dup, 1) := by decide +kernel
theorem d_m4_9 : decode method_4_code 9 = .ok (.iconst 0, 1) := by decide +kernel
theorem d_m4_10 : decode method_4_code 10 = .ok (.bipush 48, 2) := by decide +kernel
theorem d_m4_12 : decode method_4_code 12 = .ok (.castore, 1) := by decide +kernel
theorem d_m4_13 : decode method_4_code 13 = .ok (.dup, 1) := by decide +kernel
theorem d_m4_14 : decode method_4_code 14 = .ok (.iconst 1, 1) := by decide +kernel
theorem d_m4_15 : decode method_4_code 15 = .ok (.bipush 48, 2) := by decide +kernel
theorem d_m4_17 : decode method_4_code 17 = .ok (.castore, 1) := by decide +kernel
theorem d_m4_18 : decode method_4_code 18 = .ok (.dup, 1) := by decide +kernel
theorem d_m4_19 : decode method_4_code 19 = .ok (.iconst 2, 1) := by decide +kernel
theorem d_m4_20 : decode method_4_code 20 = .ok (.bipush 48, 2) := by decide +kernel
theorem d_m4_22 : decode method_4_code 22 = .ok (.castore, 1) := by decide +kernel
theorem d_m4_23 : decode method_4_code 23 = .ok (.dup, 1) := by decide +kernel
theorem d_m4_24 : decode method_4_code 24 = .ok (.iconst 3, 1) := by decide +kernel
theorem d_m4_25 : decode method_4_code 25 = .ok (.bipush 48, 2) := by decide +kernel
theorem d_m4_27 : decode method_4_code 27 = .ok (.castore, 1) := by decide +kernel
theorem d_m4_28 : decode method_4_code 28 = .ok (.dup, 1) := by decide +kernel
theorem d_m4_29 : decode method_4_code 29 = .ok (.iconst 4, 1) := by decide +kernel
theorem d_m4_30 : decode method_4_code 30 = .ok (.bipush 48, 2) := by decide +kernel
theorem d_m4_32 : decode method_4_code 32 = .ok (.castore, 1) := by decide +kernel
theorem d_m4_33 : decode method_4_code 33 = .ok (.dup, 1) := by decide +kernel
theorem d_m4_34 : decode method_4_code 34 = .ok (.iconst 5, 1) := by decide +kernel
theorem d_m4_35 : decode method_4_code 35 = .ok (.bipush 48, 2) := by decide +kernel
theorem d_m4_37 : decode method_4_code 37 = .ok (.castore, 1) := by decide +kernel
theorem d_m4_38 : decode method_4_code 38 = .ok (.dup, 1) := by decide +kernel
theorem d_m4_39 : decode method_4_code 39 = .ok (.bipush 6, 2) := by decide +kernel
theorem d_m4_41 : decode method_4_code 41 = .ok (.bipush 48, 2) := by decide +kernel
theorem d_m4_43 : decode method_4_code 43 = .ok (.castore, 1) := by decide +kernel
theorem d_m4_44 : decode method_4_code 44 = .ok (.dup, 1) := by decide +kernel
theorem d_m4_45 : decode method_4_code 45 = .ok (.bipush 7, 2) := by decide +kernel
theorem d_m4_47 : decode method_4_code 47 = .ok (.bipush 48, 2) := by decide +kernel
theorem d_m4_49 : decode method_4_code 49 = .ok (.castore, 1) := by decide +kernel
theorem d_m4_50 : decode method_4_code 50 = .ok (.dup, 1) := by decide +kernel
theorem d_m4_51 : decode method_4_code 51 = .ok (.bipush 8, 2) := by decide +kernel
theorem d_m4_53 : decode method_4_code 53 = .ok (.bipush 48, 2) := by decide +kernel
theorem d_m4_55 : decode method_4_code 55 = .ok (.castore, 1) := by decide +kernel
theorem d_m4_56 : decode method_4_code 56 = .ok (.dup, 1) := by decide +kernel
theorem d_m4_57 : decode method_4_code 57 = .ok (.bipush 9, 2) := by decide +kernel
theorem d_m4_59 : decode method_4_code 59 = .ok (.bipush 48, 2) := by decide +kernel
theorem d_m4_61 : decode method_4_code 61 = .ok (.castore, 1) := by decide +kernel
theorem d_m4_62 : decode method_4_code 62 = .ok (.dup, 1) := by decide +kernel
theorem d_m4_63 : decode method_4_code 63 = .ok (.bipush 10, 2) := by decide +kernel
theorem d_m4_65 : decode method_4_code 65 = .ok (.bipush 48, 2) := by decide +kernel
theorem d_m4_67 : decode method_4_code 67 = .ok (.castore, 1) := by decide +kernel
theorem d_m4_68 : decode method_4_code 68 = .ok (.dup, 1) := by decide +kernel
theorem d_m4_69 : decode method_4_code 69 = .ok (.bipush 11, 2) := by decide +kernel
theorem d_m4_71 : decode method_4_code 71 = .ok (.bipush 48, 2) := by decide +kernel
theorem d_m4_73 : decode method_4_code 73 = .ok (.castore, 1) := by decide +kernel
theorem d_m4_74 : decode method_4_code 74 = .ok (.dup, 1) := by decide +kernel
theorem d_m4_75 : decode method_4_code 75 = .ok (.bipush 12, 2) := by decide +kernel
theorem d_m4_77 : decode method_4_code 77 = .ok (.bipush 48, 2) := by decide +kernel
theorem d_m4_79 : decode method_4_code 79 = .ok (.castore, 1) := by decide +kernel
theorem d_m4_80 : decode method_4_code 80 = .ok (.dup, 1) := by decide +kernel
theorem d_m4_81 : decode method_4_code 81 = .ok (.bipush 13, 2) := by decide +kernel
theorem d_m4_83 : decode method_4_code 83 = .ok (.bipush 48, 2) := by decide +kernel
theorem d_m4_85 : decode method_4_code 85 = .ok (.castore, 1) := by decide +kernel
theorem d_m4_86 : decode method_4_code 86 = .ok (.dup, 1) := by decide +kernel
theorem d_m4_87 : decode method_4_code 87 = .ok (.bipush 14, 2) := by decide +kernel
theorem d_m4_89 : decode method_4_code 89 = .ok (.bipush 48, 2) := by decide +kernel
theorem d_m4_91 : decode method_4_code 91 = .ok (.castore, 1) := by decide +kernel
theorem d_m4_92 : decode method_4_code 92 = .ok (.dup, 1) := by decide +kernel
theorem d_m4_93 : decode method_4_code 93 = .ok (.bipush 15, 2) := by decide +kernel
theorem d_m4_95 : decode method_4_code 95 = .ok (.bipush 48, 2) := by decide +kernel
theorem d_m4_97 : decode method_4_code 97 = .ok (.castore, 1) := by decide +kernel
theorem d_m4_98 : decode method_4_code 98 = .ok (.dup, 1) := by decide +kernel
theorem d_m4_99 : decode method_4_code 99 = .ok (.bipush 16, 2) := by decide +kernel
theorem d_m4_101 : decode method_4_code 101 = .ok (.bipush 48, 2) := by decide +kernel
theorem d_m4_103 : decode method_4_code 103 = .ok (.castore, 1) := by decide +kernel
theorem d_m4_104 : decode method_4_code 104 = .ok (.dup, 1) := by decide +kernel
theorem d_m4_105 : decode method_4_code 105 = .ok (.bipush 17, 2) := by decide +kernel
theorem d_m4_107 : decode method_4_code 107 = .ok (.bipush 48, 2) := by decide +kernel
theorem d_m4_109 : decode method_4_code 109 = .ok (.castore, 1) := by decide +kernel
theorem d_m4_110 : decode method_4_code 110 = .ok (.dup, 1) := by decide +kernel
theorem d_m4_111 : decode method_4_code 111 = .ok (.bipush 18, 2) := by decide +kernel
theorem d_m4_113 : decode method_4_code 113 = .ok (.bipush 48, 2) := by decide +kernel
theorem d_m4_115 : decode method_4_code 115 = .ok (.castore, 1) := by decide +kernel
theorem d_m4_116 : decode method_4_code 116 = .ok (.dup, 1) := by decide +kernel
theorem d_m4_117 : decode method_4_code 117 = .ok (.bipush 19, 2) := by decide +kernel
theorem d_m4_119 : decode method_4_code 119 = .ok (.bipush 48, 2) := by decide +kernel
theorem d_m4_121 : decode method_4_code 121 = .ok (.castore, 1) := by decide +kernel
theorem d_m4_122 : decode method_4_code 122 = .ok (.dup, 1) := by decide +kernel
theorem d_m4_123 : decode method_4_code 123 = .ok (.bipush 20, 2) := by decide +kernel
theorem d_m4_125 : decode method_4_code 125 = .ok (.bipush 48, 2) := by decide +kernel
theorem d_m4_127 : decode method_4_code 127 = .ok (.castore, 1) := by decide +kernel
theorem d_m4_128 : decode method_4_code 128 = .ok (.dup, 1) := by decide +kernel
theorem d_m4_129 : decode method_4_code 129 = .ok (.bipush 21, 2) := by decide +kernel
theorem d_m4_131 : decode method_4_code 131 = .ok (.bipush 48, 2) := by decide +kernel
theorem d_m4_133 : decode method_4_code 133 = .ok (.castore, 1) := by decide +kernel
theorem d_m4_134 : decode method_4_code 134 = .ok (.dup, 1) := by decide +kernel
theorem d_m4_135 : decode method_4_code 135 = .ok (.bipush 22, 2) := by decide +kernel
theorem d_m4_137 : decode method_4_code 137 = .ok (.bipush 48, 2) := by decide +kernel
theorem d_m4_139 : decode method_4_code 139 = .ok (.castore, 1) := by decide +kernel
theorem d_m4_140 : decode method_4_code 140 = .ok (.dup, 1) := by decide +kernel
theorem d_m4_141 : decode method_4_code 141 = .ok (.bipush 23, 2) := by decide +kernel
theorem d_m4_143 : decode method_4_code 143 = .ok (.bipush 48, 2) := by decide +kernel
theorem d_m4_145 : decode method_4_code 145 = .ok (.castore, 1) := by decide +kernel
theorem d_m4_146 : decode method_4_code 146 = .ok (.dup, 1) := by decide +kernel
theorem d_m4_147 : decode method_4_code 147 = .ok (.bipush 24, 2) := by decide +kernel
theorem d_m4_149 : decode method_4_code 149 = .ok (.bipush 48, 2) := by decide +kernel
theorem d_m4_151 : decode method_4_code 151 = .ok (.castore, 1) := by decide +kernel
theorem d_m4_152 : decode method_4_code 152 = .ok (.dup, 1) := by decide +kernel
theorem d_m4_153 : decode method_4_code 153 = .ok (.bipush 25, 2) := by decide +kernel
theorem d_m4_155 : decode method_4_code 155 = .ok (.bipush 48, 2) := by decide +kernel
theorem d_m4_157 : decode method_4_code 157 = .ok (.castore, 1) := by decide +kernel
theorem d_m4_158 : decode method_4_code 158 = .ok (.dup, 1) := by decide +kernel
theorem d_m4_159 : decode method_4_code 159 = .ok (.bipush 26, 2) := by decide +kernel
theorem d_m4_161 : decode method_4_code 161 = .ok (.bipush 48, 2) := by decide +kernel
theorem d_m4_163 : decode method_4_code 163 = .ok (.castore, 1) := by decide +kernel
theorem d_m4_164 : decode method_4_code 164 = .ok (.dup, 1) := by decide +kernel
theorem d_m4_165 : decode method_4_code 165 = .ok (.bipush 27, 2) := by decide +kernel
theorem d_m4_167 : decode method_4_code 167 = .ok (.bipush 48, 2) := by decide +kernel
theorem d_m4_169 : decode method_4_code 169 = .ok (.castore, 1) := by decide +kernel
theorem d_m4_170 : decode method_4_code 170 = .ok (.dup, 1) := by decide +kernel
theorem d_m4_171 : decode method_4_code 171 = .ok (.bipush 28, 2) := by decide +kernel
theorem d_m4_173 : decode method_4_code 173 = .ok (.bipush 48, 2) := by decide +kernel
theorem d_m4_175 : decode method_4_code 175 = .ok (.castore, 1) := by decide +kernel
theorem d_m4_176 : decode method_4_code 176 = .ok (.dup, 1) := by decide +kernel
theorem d_m4_177 : decode method_4_code 177 = .ok (.bipush 29, 2) := by decide +kernel
theorem d_m4_179 : decode method_4_code 179 = .ok (.bipush 48, 2) := by decide +kernel
theorem d_m4_181 : decode method_4_code 181 = .ok (.castore, 1) := by decide +kernel
theorem d_m4_182 : decode method_4_code 182 = .ok (.dup, 1) := by decide +kernel
theorem d_m4_183 : decode method_4_code 183 = .ok (.bipush 30, 2) := by decide +kernel
theorem d_m4_185 : decode method_4_code 185 = .ok (.bipush 48, 2) := by decide +kernel
theorem d_m4_187 : decode method_4_code 187 = .ok (.castore, 1) := by decide +kernel
theorem d_m4_188 : decode method_4_code 188 = .ok (.dup, 1) := by decide +kernel
theorem d_m4_189 : decode method_4_code 189 = .ok (.bipush 31, 2) := by decide +kernel
theorem d_m4_191 : decode method_4_code 191 = .ok (.bipush 48, 2) := by decide +kernel
theorem d_m4_193 : decode method_4_code 193 = .ok (.castore, 1) := by decide +kernel
theorem d_m4_194 : decode method_4_code 194 = .ok (.dup, 1) := by decide +kernel
theorem d_m4_195 : decode method_4_code 195 = .ok (.bipush 32, 2) := by decide +kernel
theorem d_m4_197 : decode method_4_code 197 = .ok (.bipush 48, 2) := by decide +kernel
theorem d_m4_199 : decode method_4_code 199 = .ok (.castore, 1) := by decide +kernel
theorem d_m4_200 : decode method_4_code 200 = .ok (.dup, 1) := by decide +kernel
theorem d_m4_201 : decode method_4_code 201 = .ok (.bipush 33, 2) := by decide +kernel
theorem d_m4_203 : decode method_4_code 203 = .ok (.bipush 48, 2) := by decide +kernel
theorem d_m4_205 : decode method_4_code 205 = .ok (.castore, 1) := by decide +kernel
theorem d_m4_206 : decode method_4_code 206 = .ok (.dup, 1) := by decide +kernel
theorem d_m4_207 : decode method_4_code 207 = .ok (.bipush 34, 2) := by decide +kernel
theorem d_m4_209 : decode method_4_code 209 = .ok (.bipush 48, 2) := by decide +kernel
theorem d_m4_211 : decode method_4_code 211 = .ok (.castore, 1) := by decide +kernel
theorem d_m4_212 : decode method_4_code 212 = .ok (.dup, 1) := by decide +kernel
theorem d_m4_213 : decode method_4_code 213 = .ok (.bipush 35, 2) := by decide +kernel
theorem d_m4_215 : decode method_4_code 215 = .ok (.bipush 48, 2) := by decide +kernel
theorem d_m4_217 : decode method_4_code 217 = .ok (.castore, 1) := by decide +kernel
theorem d_m4_218 : decode method_4_code 218 = .ok (.dup, 1) := by decide +kernel
theorem d_m4_219 : decode method_4_code 219 = .ok (.bipush 36, 2) := by decide +kernel
theorem d_m4_221 : decode method_4_code 221 = .ok (.bipush 48, 2) := by decide +kernel
theorem d_m4_223 : decode method_4_code 223 = .ok (.castore, 1) := by decide +kernel
theorem d_m4_224 : decode method_4_code 224 = .ok (.dup, 1) := by decide +kernel
theorem d_m4_225 : decode method_4_code 225 = .ok (.bipush 37, 2) := by decide +kernel
theorem d_m4_227 : decode method_4_code 227 = .ok (.bipush 48, 2) := by decide +kernel
theorem d_m4_229 : decode method_4_code 229 = .ok (.castore, 1) := by decide +kernel
theorem d_m4_230 : decode method_4_code 230 = .ok (.dup, 1) := by decide +kernel
theorem d_m4_231 : decode method_4_code 231 = .ok (.bipush 38, 2) := by decide +kernel
theorem d_m4_233 : decode method_4_code 233 = .ok (.bipush 48, 2) := by decide +kernel
theorem d_m4_235 : decode method_4_code 235 = .ok (.castore, 1) := by decide +kernel
theorem d_m4_236 : decode method_4_code 236 = .ok (.dup, 1) := by decide +kernel
theorem d_m4_237 : decode method_4_code 237 = .ok (.bipush 39, 2) := by decide +kernel
theorem d_m4_239 : decode method_4_code 239 = .ok (.bipush 48, 2) := by decide +kernel
theorem d_m4_241 : decode method_4_code 241 = .ok (.castore, 1) := by decide +kernel
theorem d_m4_242 : decode method_4_code 242 = .ok (.dup, 1) := by decide +kernel
theorem d_m4_243 : decode method_4_code 243 = .ok (.bipush 40, 2) := by decide +kernel
theorem d_m4_245 : decode method_4_code 245 = .ok (.bipush 48, 2) := by decide +kernel
theorem d_m4_247 : decode method_4_code 247 = .ok (.castore, 1) := by decide +kernel
theorem d_m4_248 : decode method_4_code 248 = .ok (.dup, 1) := by decide +kernel
theorem d_m4_249 : decode method_4_code 249 = .ok (.bipush 41, 2) := by decide +kernel
theorem d_m4_251 : decode method_4_code 251 = .ok (.bipush 48, 2) := by decide +kernel
theorem d_m4_253 : decode method_4_code 253 = .ok (.castore, 1) := by decide +kernel
theorem d_m4_254 : decode method_4_code 254 = .ok (.dup, 1) := by decide +kernel
theorem d_m4_255 : decode method_4_code 255 = .ok (.bipush 42, 2) := by decide +kernel
theorem d_m4_257 : decode method_4_code 257 = .ok (.bipush 48, 2) := by decide +kernel
theorem d_m4_259 : decode method_4_code 259 = .ok (.castore, 1) := by decide +kernel
theorem d_m4_260 : decode method_4_code 260 = .ok (.dup, 1) := by decide +kernel
theorem d_m4_261 : decode method_4_code 261 = .ok (.bipush 43, 2) := by decide +kernel
theorem d_m4_263 : decode method_4_code 263 = .ok (.bipush 48, 2) := by decide +kernel
theorem d_m4_265 : decode method_4_code 265 = .ok (.castore, 1) := by decide +kernel
theorem d_m4_266 : decode method_4_code 266 = .ok (.dup, 1) := by decide +kernel
theorem d_m4_267 : decode method_4_code 267 = .ok (.bipush 44, 2) := by decide +kernel
theorem d_m4_269 : decode method_4_code 269 = .ok (.bipush 48, 2) := by decide +kernel
theorem d_m4_271 : decode method_4_code 271 = .ok (.castore, 1) := by decide +kernel
theorem d_m4_272 : decode method_4_code 272 = .ok (.dup, 1) := by decide +kernel
theorem d_m4_273 : decode method_4_code 273 = .ok (.bipush 45, 2) := by decide +kernel
theorem d_m4_275 : decode method_4_code 275 = .ok (.bipush 48, 2) := by decide +kernel
theorem d_m4_277 : decode method_4_code 277 = .ok (.castore, 1) := by decide +kernel
theorem d_m4_278 : decode method_4_code 278 = .ok (.dup, 1) := by decide +kernel
theorem d_m4_279 : decode method_4_code 279 = .ok (.bipush 46, 2) := by decide +kernel
theorem d_m4_281 : decode method_4_code 281 = .ok (.bipush 48, 2) := by decide +kernel
theorem d_m4_283 : decode method_4_code 283 = .ok (.castore, 1) := by decide +kernel
theorem d_m4_284 : decode method_4_code 284 = .ok (.dup, 1) := by decide +kernel
theorem d_m4_285 : decode method_4_code 285 = .ok (.bipush 47, 2) := by decide +kernel
theorem d_m4_287 : decode method_4_code 287 = .ok (.bipush 48, 2) := by decide +kernel
theorem d_m4_289 : decode method_4_code 289 = .ok (.castore, 1) := by decide +kernel
theorem d_m4_290 : decode method_4_code 290 = .ok (.dup, 1) := by decide +kernel
theorem d_m4_291 : decode method_4_code 291 = .ok (.bipush 48, 2) := by decide +kernel
theorem d_m4_293 : decode method_4_code 293 = .ok (.bipush 48, 2) := by decide +kernel
theorem d_m4_295 : decode method_4_code 295 = .ok (.castore, 1) := by decide +kernel
theorem d_m4_296 : decode method_4_code 296 = .ok (.dup, 1) := by decide +kernel
theorem d_m4_297 : decode method_4_code 297 = .ok (.bipush 49, 2) := by decide +kernel
theorem d_m4_299 : decode method_4_code 299 = .ok (.bipush 48, 2) := by decide +kernel
theorem d_m4_301 : decode method_4_code 301 = .ok (.castore, 1) := by decide +kernel
theorem d_m4_302 : decode method_4_code 302 = .ok (.dup, 1) := by decide +kernel
theorem d_m4_303 : decode method_4_code 303 = .ok (.bipush 50, 2) := by decide +kernel
theorem d_m4_305 : decode method_4_code 305 = .ok (.bipush 48, 2) := by decide +kernel
theorem d_m4_307 : decode method_4_code 307 = .ok (.castore, 1) := by decide +kernel
theorem d_m4_308 : decode method_4_code 308 = .ok (.dup, 1) := by decide +kernel
theorem d_m4_309 : decode method_4_code 309 = .ok (.bipush 51, 2) := by decide +kernel
theorem d_m4_311 : decode method_4_code 311 = .ok (.bipush 48, 2) := by decide +kernel
theorem d_m4_313 : decode method_4_code 313 = .ok (.castore, 1) := by decide +kernel
theorem d_m4_314 : decode method_4_code 314 = .ok (.dup, 1) := by decide +kernel
theorem d_m4_315 : decode method_4_code 315 = .ok (.bipush 52, 2) := by decide +kernel
theorem d_m4_317 : decode method_4_code 317 = .ok (.bipush 48, 2) := by decide +kernel
theorem d_m4_319 : decode method_4_code 319 = .ok (.castore, 1) := by decide +kernel
theorem d_m4_320 : decode method_4_code 320 = .ok (.dup, 1) := by decide +kernel
theorem d_m4_321 : decode method_4_code 321 = .ok (.bipush 53, 2) := by decide +kernel
theorem d_m4_323 : decode method_4_code 323 = .ok (.bipush 48, 2) := by decide +kernel
theorem d_m4_325 : decode method_4_code 325 = .ok (.castore, 1) := by decide +kernel
theorem d_m4_326 : decode method_4_code 326 = .ok (.dup, 1) := by decide +kernel
theorem d_m4_327 : decode method_4_code 327 = .ok (.bipush 54, 2) := by decide +kernel
theorem d_m4_329 : decode method_4_code 329 = .ok (.bipush 48, 2) := by decide +kernel
theorem d_m4_331 : decode method_4_code 331 = .ok (.castore, 1) := by decide +kernel
theorem d_m4_332 : decode method_4_code 332 = .ok (.dup, 1) := by decide +kernel
theorem d_m4_333 : decode method_4_code 333 = .ok (.bipush 55, 2) := by decide +kernel
theorem d_m4_335 : decode method_4_code 335 = .ok (.bipush 48, 2) := by decide +kernel
theorem d_m4_337 : decode method_4_code 337 = .ok (.castore, 1) := by decide +kernel
theorem d_m4_338 : decode method_4_code 338 = .ok (.dup, 1) := by decide +kernel
theorem d_m4_339 : decode method_4_code 339 = .ok (.bipush 56, 2) := by decide +kernel
theorem d_m4_341 : decode method_4_code 341 = .ok (.bipush 48, 2) := by decide +kernel
theorem d_m4_343 : decode method_4_code 343 = .ok (.castore, 1) := by decide +kernel
theorem d_m4_344 : decode method_4_code 344 = .ok (.dup, 1) := by decide +kernel
theorem d_m4_345 : decode method_4_code 345 = .ok (.bipush 57, 2) := by decide +kernel
theorem d_m4_347 : decode method_4_code 347 = .ok (.bipush 48, 2) := by decide +kernel
theorem d_m4_349 : decode method_4_code 349 = .ok (.castore, 1) := by decide +kernel
theorem d_m4_350 : decode method_4_code 350 = .ok (.dup, 1) := by decide +kernel
theorem d_m4_351 : decode method_4_code 351 = .ok (.bipush 58, 2) := by decide +kernel
theorem d_m4_353 : decode method_4_code 353 = .ok (.bipush 48, 2) := by decide +kernel
theorem d_m4_355 : decode method_4_code 355 = .ok (.castore, 1) := by decide +kernel
theorem d_m4_356 : decode method_4_code 356 = .ok (.dup, 1) := by decide +kernel
theorem d_m4_357 : decode method_4_code 357 = .ok (.bipush 59, 2) := by decide +kernel
theorem d_m4_359 : decode method_4_code 359 = .ok (.bipush 48, 2) := by decide +kernel
theorem d_m4_361 : decode method_4_code 361 = .ok (.castore, 1) := by decide +kernel
theorem d_m4_362 : decode method_4_code 362 = .ok (.dup, 1) := by decide +kernel
theorem d_m4_363 : decode method_4_code 363 = .ok (.bipush 60, 2) := by decide +kernel
theorem d_m4_365 : decode method_4_code 365 = .ok (.bipush 48, 2) := by decide +kernel
theorem d_m4_367 : decode method_4_code 367 = .ok (.castore, 1) := by decide +kernel
theorem d_m4_368 : decode method_4_code 368 = .ok (.dup, 1) := by decide +kernel
theorem d_m4_369 : decode method_4_code 369 = .ok (.bipush 61, 2) := by decide +kernel
theorem d_m4_371 : decode method_4_code 371 = .ok (.bipush 48, 2) := by decide +kernel
theorem d_m4_373 : decode method_4_code 373 = .ok (.castore, 1) := by decide +kernel
theorem d_m4_374 : decode method_4_code 374 = .ok (.dup, 1) := by decide +kernel
theorem d_m4_375 : decode method_4_code 375 = .ok (.bipush 62, 2) := by decide +kernel
theorem d_m4_377 : decode method_4_code 377 = .ok (.bipush 48, 2) := by decide +kernel
theorem d_m4_379 : decode method_4_code 379 = .ok (.castore, 1) := by decide +kernel
theorem d_m4_380 : decode method_4_code 380 = .ok (.dup, 1) := by decide +kernel
theorem d_m4_381 : decode method_4_code 381 = .ok (.bipush 63, 2) := by decide +kernel
theorem d_m4_383 : decode method_4_code 383 = .ok (.bipush 48, 2) := by decide +kernel
theorem d_m4_385 : decode method_4_code 385 = .ok (.castore, 1) := by decide +kernel
theorem d_m4_386 : decode method_4_code 386 = .ok (.astore_n 2, 1) := by decide +kernel
theorem d_m4_387 : decode method_4_code 387 = .ok (.goto 441, 3) := by decide +kernel
theorem d_m4_828 : decode method_4_code 828 = .ok (.aload_n 2, 1) := by decide +kernel
theorem d_m4_829 : decode method_4_code 829 = .ok (.arraylength, 1) := by decide +kernel
theorem d_m4_830 : decode method_4_code 830 = .ok (.istore_n 3, 1) := by decide +kernel
theorem d_m4_831 : decode method_4_code 831 = .ok (.aload_n 2, 1) := by decide +kernel
theorem d_m4_832 : decode method_4_code 832 = .ok (.iconst 0, 1) := by decide +kernel
theorem d_m4_833 : decode method_4_code 833 = .ok (.iload_n 1, 1) := by decide +kernel
theorem d_m4_834 : decode method_4_code 834 = .ok (.invokestatic 19, 3) := by decide +kernel
theorem d_m4_837 : decode method_4_code 837 = .ok (.castore, 1) := by decide +kernel
theorem d_m4_838 : decode method_4_code 838 = .ok (.aload_n 2, 1) := by decide +kernel
theorem d_m4_839 : decode method_4_code 839 = .ok (.iload_n 3, 1) := by decide +kernel
theorem d_m4_840 : decode method_4_code 840 = .ok (.iconst 2, 1) := by decide +kernel
theorem d_m4_841 : decode method_4_code 841 = .ok (.idiv, 1) := by decide +kernel
theorem d_m4_842 : decode method_4_code 842 = .ok (.iload_n 1, 1) := by decide +kernel
theorem d_m4_843 : decode method_4_code 843 = .ok (.iconst 4, 1) := by decide +kernel
theorem d_m4_844 : decode method_4_code 844 = .ok (.iushr, 1) := by decide +kernel
theorem d_m4_845 : decode method_4_code 845 = .ok (.invokestatic 19, 3) := by decide +kernel
theorem d_m4_848 : decode method_4_code 848 = .ok (.castore, 1) := by decide +kernel
theorem d_m4_849 : decode method_4_code 849 = .ok (.aload_n 2, 1) := by decide +kernel
theorem d_m4_850 : decode method_4_code 850 = .ok (.iload_n 3, 1) := by decide +kernel
theorem d_m4_851 : decode method_4_code 851 = .ok (.iconst 1, 1) := by decide +kernel
theorem d_m4_852 : decode method_4_code 852 = .ok (.isub, 1) := by decide +kernel
theorem d_m4_853 : decode method_4_code 853 = .ok (.iload_n 1, 1) := by decide +kernel
theorem d_m4_854 : decode method_4_code 854 = .ok (.bipush 8, 2) := by decide +kernel
theorem d_m4_856 : decode method_4_code 856 = .ok (.iushr, 1) := by decide +kernel
theorem d_m4_857 : decode method_4_code 857 = .ok (.invokestatic 19, 3) := by decide +kernel
theorem d_m4_860 : decode method_4_code 860 = .ok (.castore, 1) := by decide +kernel
theorem d_m4_861 : decode method_4_code 861 = .ok (.new 25, 3) := by decide +kernel
theorem d_m4_864 : decode method_4_code 864 = .ok (.dup, 1) := by decide +kernel
theorem d_m4_865 : decode method_4_code 865 = .ok (.aload_n 2, 1) := by decide +kernel
theorem d_m4_866 : decode method_4_code 866 = .ok (.invokespecial 27, 3) := by decide +kernel
theorem pd26 : parseMethodDescriptor "([C)V" = some ⟨[(.array .char)], none⟩ := by decide +kernel
theorem d_m4_869 : decode method_4_code 869 = .ok (.areturn, 1) := by decide +kernel
theorem d_m4_390 : decode method_4_code 390 = .ok (.iload_n 0, 1) := by decide +kernel
theorem d_m4_391 : decode method_4_code 391 = .ok (.iconst 1, 1) := by decide +kernel
theorem d_m4_392 : decode method_4_code 392 = .ok (.if_icmp .ne 245, 3) := by decide +kernel
theorem d_m4_395 : decode method_4_code 395 = .ok (.bipush 40, 2) := by decide +kernel
theorem d_m4_397 : decode method_4_code 397 = .ok (.newarray .char, 2) := by decide +kernel
theorem d_m4_399 : decode method_4_code 399 = .ok (.dup, 1) := by decide +kernel
theorem d_m4_400 : decode method_4_code 400 = .ok (.iconst 0, 1) := by decide +kernel
theorem d_m4_401 : decode method_4_code 401 = .ok (.bipush 48, 2) := by decide +kernel
theorem d_m4_403 : decode method_4_code 403 = .ok (.castore, 1) := by decide +kernel
theorem d_m4_404 : decode method_4_code 404 = .ok (.dup, 1) := by decide +kernel
theorem d_m4_405 : decode method_4_code 405 = .ok (.iconst 1, 1) := by decide +kernel
theorem d_m4_406 : decode method_4_code 406 = .ok (.bipush 48, 2) := by decide +kernel
theorem d_m4_408 : decode method_4_code 408 = .ok (.castore, 1) := by decide +kernel
theorem d_m4_409 : decode method_4_code 409 = .ok (.dup, 1) := by decide +kernel
theorem d_m4_410 : decode method_4_code 410 = .ok (.iconst 2, 1) := by decide +kernel
theorem d_m4_411 : decode method_4_code 411 = .ok (.bipush 48, 2) := by decide +kernel
theorem d_m4_413 : decode method_4_code 413 = .ok (.castore, 1) := by decide +kernel
theorem d_m4_414 : decode method_4_code 414 = .ok (.dup, 1) := by decide +kernel
theorem d_m4_415 : decode method_4_code 415 = .ok (.iconst 3, 1) := by decide +kernel
theorem d_m4_416 : decode method_4_code 416 = .ok (.bipush 48, 2) := by decide +kernel
theorem d_m4_418 : decode method_4_code 418 = .ok (.castore, 1) := by decide +kernel
theorem d_m4_419 : decode method_4_code 419 = .ok (.dup, 1) := by decide +kernel
theorem d_m4_420 : decode method_4_code 420 = .ok (.iconst 4, 1) := by decide +kernel
theorem d_m4_421 : decode method_4_code 421 = .ok (.bipush 48, 2) := by decide +kernel
theorem d_m4_423 : decode method_4_code 423 = .ok (.castore, 1) := by decide +kernel
theorem d_m4_424 : decode method_4_code 424 = .ok (.dup, 1) := by decide +kernel
theorem d_m4_425 : decode method_4_code 425 = .ok (.iconst 5, 1) := by decide +kernel
theorem d_m4_426 : decode method_4_code 426 = .ok (.bipush 48, 2) := by decide +kernel
theorem d_m4_428 : decode method_4_code 428 = .ok (.castore, 1) := by decide +kernel
theorem d_m4_429 : decode method_4_code 429 = .ok (.dup, 1) := by decide +kernel
theorem d_m4_430 : decode method_4_code 430 = .ok (.bipush 6, 2) := by decide +kernel
theorem d_m4_432 : decode method_4_code 432 = .ok (.bipush 48, 2) := by decide +kernel
theorem d_m4_434 : decode method_4_code 434 = .ok (.castore, 1) := by decide +kernel
theorem d_m4_435 : decode method_4_code 435 = .ok (.dup, 1) := by decide +kernel
theorem d_m4_436 : decode method_4_code 436 = .ok (.bipush 7, 2) := by decide +kernel
theorem d_m4_438 : decode method_4_code 438 = .ok (.bipush 48, 2) := by decide +kernel
theorem d_m4_440 : decode method_4_code 440 = .ok (.castore, 1) := by decide +kernel
theorem d_m4_441 : decode method_4_code 441 = .ok (.dup, 1) := by decide +kernel
theorem d_m4_442 : decode method_4_code 442 = .ok (.bipush 8, 2) := by decide +kernel
theorem d_m4_444 : decode method_4_code 444 = .ok (.bipush 48, 2) := by decide +kernel
theorem d_m4_446 : decode method_4_code 446 = .ok (.castore, 1) := by decide +kernel
theorem d_m4_447 : decode method_4_code 447 = .ok (.dup, 1) := by decide +kernel
theorem d_m4_448 : decode method_4_code 448 = .ok (.bipush 9, 2) := by decide +kernel
theorem d_m4_450 : decode method_4_code 450 = .ok (.bipush 48, 2) := by decide +kernel
theorem d_m4_452 : decode method_4_code 452 = .ok (.castore, 1) := by decide +kernel
theorem d_m4_453 : decode method_4_code 453 = .ok (.dup, 1) := by decide +kernel
theorem d_m4_454 : decode method_4_code 454 = .ok (.bipush 10, 2) := by decide +kernel
theorem d_m4_456 : decode method_4_code 456 = .ok (.bipush 48, 2) := by decide +kernel
theorem d_m4_458 : decode method_4_code 458 = .ok (.castore, 1) := by decide +kernel
theorem d_m4_459 : decode method_4_code 459 = .ok (.dup, 1) := by decide +kernel
theorem d_m4_460 : decode method_4_code 460 = .ok (.bipush 11, 2) := by decide +kernel
theorem d_m4_462 : decode method_4_code 462 = .ok (.bipush 48, 2) := by decide +kernel
theorem d_m4_464 : decode method_4_code 464 = .ok (.castore, 1) := by decide +kernel
theorem d_m4_465 : decode method_4_code 465 = .ok (.dup, 1) := by decide +kernel
theorem d_m4_466 : decode method_4_code 466 = .ok (.bipush 12, 2) := by decide +kernel
theorem d_m4_468 : decode method_4_code 468 = .ok (.bipush 48, 2) := by decide +kernel
theorem d_m4_470 : decode method_4_code 470 = .ok (.castore, 1) := by decide +kernel
theorem d_m4_471 : decode method_4_code 471 = .ok (.dup, 1) := by decide +kernel
theorem d_m4_472 : decode method_4_code 472 = .ok (.bipush 13, 2) := by decide +kernel
theorem d_m4_474 : decode method_4_code 474 = .ok (.bipush 48, 2) := by decide +kernel
theorem d_m4_476 : decode method_4_code 476 = .ok (.castore, 1) := by decide +kernel
theorem d_m4_477 : decode method_4_code 477 = .ok (.dup, 1) := by decide +kernel
theorem d_m4_478 : decode method_4_code 478 = .ok (.bipush 14, 2) := by decide +kernel
theorem d_m4_480 : decode method_4_code 480 = .ok (.bipush 48, 2) := by decide +kernel
theorem d_m4_482 : decode method_4_code 482 = .ok (.castore, 1) := by decide +kernel
theorem d_m4_483 : decode method_4_code 483 = .ok (.dup, 1) := by decide +kernel
theorem d_m4_484 : decode method_4_code 484 = .ok (.bipush 15, 2) := by decide +kernel
theorem d_m4_486 : decode method_4_code 486 = .ok (.bipush 48, 2) := by decide +kernel
theorem d_m4_488 : decode method_4_code 488 = .ok (.castore, 1) := by decide +kernel
theorem d_m4_489 : decode method_4_code 489 = .ok (.dup, 1) := by decide +kernel
theorem d_m4_490 : decode method_4_code 490 = .ok (.bipush 16, 2) := by decide +kernel
theorem d_m4_492 : decode method_4_code 492 = .ok (.bipush 48, 2) := by decide +kernel
theorem d_m4_494 : decode method_4_code 494 = .ok (.castore, 1) := by decide +kernel
theorem d_m4_495 : decode method_4_code 495 = .ok (.dup, 1) := by decide +kernel
theorem d_m4_496 : decode method_4_code 496 = .ok (.bipush 17, 2) := by decide +kernel
theorem d_m4_498 : decode method_4_code 498 = .ok (.bipush 48, 2) := by decide +kernel
theorem d_m4_500 : decode method_4_code 500 = .ok (.castore, 1) := by decide +kernel
theorem d_m4_501 : decode method_4_code 501 = .ok (.dup, 1) := by decide +kernel
theorem d_m4_502 : decode method_4_code 502 = .ok (.bipush 18, 2) := by decide +kernel
theorem d_m4_504 : decode method_4_code 504 = .ok (.bipush 48, 2) := by decide +kernel
theorem d_m4_506 : decode method_4_code 506 = .ok (.castore, 1) := by decide +kernel
theorem d_m4_507 : decode method_4_code 507 = .ok (.dup, 1) := by decide +kernel
theorem d_m4_508 : decode method_4_code 508 = .ok (.bipush 19, 2) := by decide +kernel
theorem d_m4_510 : decode method_4_code 510 = .ok (.bipush 48, 2) := by decide +kernel
theorem d_m4_512 : decode method_4_code 512 = .ok (.castore, 1) := by decide +kernel
theorem d_m4_513 : decode method_4_code 513 = .ok (.dup, 1) := by decide +kernel
theorem d_m4_514 : decode method_4_code 514 = .ok (.bipush 20, 2) := by decide +kernel
theorem d_m4_516 : decode method_4_code 516 = .ok (.bipush 48, 2) := by decide +kernel
theorem d_m4_518 : decode method_4_code 518 = .ok (.castore, 1) := by decide +kernel
theorem d_m4_519 : decode method_4_code 519 = .ok (.dup, 1) := by decide +kernel
theorem d_m4_520 : decode method_4_code 520 = .ok (.bipush 21, 2) := by decide +kernel
theorem d_m4_522 : decode method_4_code 522 = .ok (.bipush 48, 2) := by decide +kernel
theorem d_m4_524 : decode method_4_code 524 = .ok (.castore, 1) := by decide +kernel
theorem d_m4_525 : decode method_4_code 525 = .ok (.dup, 1) := by decide +kernel
theorem d_m4_526 : decode method_4_code 526 = .ok (.bipush 22, 2) := by decide +kernel
theorem d_m4_528 : decode method_4_code 528 = .ok (.bipush 48, 2) := by decide +kernel
theorem d_m4_530 : decode method_4_code 530 = .ok (.castore, 1) := by decide +kernel
theorem d_m4_531 : decode method_4_code 531 = .ok (.dup, 1) := by decide +kernel
theorem d_m4_532 : decode method_4_code 532 = .ok (.bipush 23, 2) := by decide +kernel
theorem d_m4_534 : decode method_4_code 534 = .ok (.bipush 48, 2) := by decide +kernel
theorem d_m4_536 : decode method_4_code 536 = .ok (.castore, 1) := by decide +kernel
theorem d_m4_537 : decode method_4_code 537 = .ok (.dup, 1) := by decide +kernel
theorem d_m4_538 : decode method_4_code 538 = .ok (.bipush 24, 2) := by decide +kernel
theorem d_m4_540 : decode method_4_code 540 = .ok (.bipush 48, 2) := by decide +kernel
theorem d_m4_542 : decode method_4_code 542 = .ok (.castore, 1) := by decide +kernel
theorem d_m4_543 : decode method_4_code 543 = .ok (.dup, 1) := by decide +kernel
theorem d_m4_544 : decode method_4_code 544 = .ok (.bipush 25, 2) := by decide +kernel
theorem d_m4_546 : decode method_4_code 546 = .ok (.bipush 48, 2) := by decide +kernel
theorem d_m4_548 : decode method_4_code 548 = .ok (.castore, 1) := by decide +kernel
theorem d_m4_549 : decode method_4_code 549 = .ok (.dup, 1) := by decide +kernel
theorem d_m4_550 : decode method_4_code 550 = .ok (.bipush 26, 2) := by decide +kernel
theorem d_m4_552 : decode method_4_code 552 = .ok (.bipush 48, 2) := by decide +kernel
theorem d_m4_554 : decode method_4_code 554 = .ok (.castore, 1) := by decide +kernel
theorem d_m4_555 : decode method_4_code 555 = .ok (.dup, 1) := by decide +kernel
theorem d_m4_556 : decode method_4_code 556 = .ok (.bipush 27, 2) := by decide +kernel
theorem d_m4_558 : decode method_4_code 558 = .ok (.bipush 48, 2) := by decide +kernel
theorem d_m4_560 : decode method_4_code 560 = .ok (.castore, 1) := by decide +kernel
theorem d_m4_561 : decode method_4_code 561 = .ok (.dup, 1) := by decide +kernel
theorem d_m4_562 : decode method_4_code 562 = .ok (.bipush 28, 2) := by decide +kernel
theorem d_m4_564 : decode method_4_code 564 = .ok (.bipush 48, 2) := by decide +kernel
theorem d_m4_566 : decode method_4_code 566 = .ok (.castore, 1) := by decide +kernel
theorem d_m4_567 : decode method_4_code 567 = .ok (.dup, 1) := by decide +kernel
theorem d_m4_568 : decode method_4_code 568 = .ok (.bipush 29, 2) := by decide +kernel
theorem d_m4_570 : decode method_4_code 570 = .ok (.bipush 48, 2) := by decide +kernel
theorem d_m4_572 : decode method_4_code 572 = .ok (.castore, 1) := by decide +kernel
theorem d_m4_573 : decode method_4_code 573 = .ok (.dup, 1) := by decide +kernel
theorem d_m4_574 : decode method_4_code 574 = .ok (.bipush 30, 2) := by decide +kernel
theorem d_m4_576 : decode method_4_code 576 = .ok (.bipush 48, 2) := by decide +kernel
theorem d_m4_578 : decode method_4_code 578 = .ok (.castore, 1) := by decide +kernel
theorem d_m4_579 : decode method_4_code 579 = .ok (.dup, 1) := by decide +kernel
theorem d_m4_580 : decode method_4_code 580 = .ok (.bipush 31, 2) := by decide +kernel
theorem d_m4_582 : decode method_4_code 582 = .ok (.bipush 48, 2) := by decide +kernel
theorem d_m4_584 : decode method_4_code 584 = .ok (.castore, 1) := by decide +kernel
theorem d_m4_585 : decode method_4_code 585 = .ok (.dup, 1) := by decide +kernel
theorem d_m4_586 : decode method_4_code 586 = .ok (.bipush 32, 2) := by decide +kernel
theorem d_m4_588 : decode method_4_code 588 = .ok (.bipush 48, 2) := by decide +kernel
theorem d_m4_590 : decode method_4_code 590 = .ok (.castore, 1) := by decide +kernel
theorem d_m4_591 : decode method_4_code 591 = .ok (.dup, 1) := by decide +kernel
theorem d_m4_592 : decode method_4_code 592 = .ok (.bipush 33, 2) := by decide +kernel
theorem d_m4_594 : decode method_4_code 594 = .ok (.bipush 48, 2) := by decide +kernel
theorem d_m4_596 : decode method_4_code 596 = .ok (.castore, 1) := by decide +kernel
theorem d_m4_597 : decode method_4_code 597 = .ok (.dup, 1) := by decide +kernel
theorem d_m4_598 : decode method_4_code 598 = .ok (.bipush 34, 2) := by decide +kernel
theorem d_m4_600 : decode method_4_code 600 = .ok (.bipush 48, 2) := by decide +kernel
theorem d_m4_602 : decode method_4_code 602 = .ok (.castore, 1) := by decide +kernel
theorem d_m4_603 : decode method_4_code 603 = .ok (.dup, 1) := by decide +kernel
theorem d_m4_604 : decode method_4_code 604 = .ok (.bipush 35, 2) := by decide +kernel
theorem d_m4_606 : decode method_4_code 606 = .ok (.bipush 48, 2) := by decide +kernel
theorem d_m4_608 : decode method_4_code 608 = .ok (.castore, 1) := by decide +kernel
theorem d_m4_609 : decode method_4_code 609 = .ok (.dup, 1) := by decide +kernel
theorem d_m4_610 : decode method_4_code 610 = .ok (.bipush 36, 2) := by decide +kernel
theorem d_m4_612 : decode method_4_code 612 = .ok (.bipush 48, 2) := by decide +kernel
theorem d_m4_614 : decode method_4_code 614 = .ok (.castore, 1) := by decide +kernel
theorem d_m4_615 : decode method_4_code 615 = .ok (.dup, 1) := by decide +kernel
theorem d_m4_616 : decode method_4_code 616 = .ok (.bipush 37, 2) := by decide +kernel
theorem d_m4_618 : decode method_4_code 618 = .ok (.bipush 48, 2) := by decide +kernel
theorem d_m4_620 : decode method_4_code 620 = .ok (.castore, 1) := by decide +kernel
theorem d_m4_621 : decode method_4_code 621 = .ok (.dup, 1) := by decide +kernel
theorem d_m4_622 : decode method_4_code 622 = .ok (.bipush 38, 2) := by decide +kernel
theorem d_m4_624 : decode method_4_code 624 = .ok (.bipush 48, 2) := by decide +kernel
theorem d_m4_626 : decode method_4_code 626 = .ok (.castore, 1) := by decide +kernel
theorem d_m4_627 : decode method_4_code 627 = .ok (.dup, 1) := by decide +kernel
theorem d_m4_628 : decode method_4_code 628 = .ok (.bipush 39, 2) := by decide +kernel
theorem d_m4_630 : decode method_4_code 630 = .ok (.bipush 48, 2) := by decide +kernel
theorem d_m4_632 : decode method_4_code 632 = .ok (.castore, 1) := by decide +kernel
theorem d_m4_633 : decode method_4_code 633 = .ok (.astore_n 2, 1) := by decide +kernel
theorem d_m4_634 : decode method_4_code 634 = .ok (.goto 194, 3) := by decide +kernel
theorem d_m4_637 : decode method_4_code 637 = .ok (.bipush 32, 2) := by decide +kernel
theorem d_m4_639 : decode method_4_code 639 = .ok (.newarray .char, 2) := by decide +kernel
theorem d_m4_641 : decode method_4_code 641 = .ok (.dup, 1) := by decide +kernel
theorem d_m4_642 : decode method_4_code 642 = .ok (.iconst 0, 1) := by decide +kernel
theorem d_m4_643 : decode method_4_code 643 = .ok (.bipush 48, 2) := by decide +kernel
theorem d_m4_645 : decode method_4_code 645 = .ok (.castore, 1) := by decide +kernel
theorem d_m4_646 : decode method_4_code 646 = .ok (.dup, 1) := by decide +kernel
theorem d_m4_647 : decode method_4_code 647 = .ok (.iconst 1, 1) := by decide +kernel
theorem d_m4_648 : decode method_4_code 648 = .ok (.bipush 48, 2) := by decide +kernel
theorem d_m4_650 : decode method_4_code 650 = .ok (.castore, 1) := by decide +kernel
theorem d_m4_651 : decode method_4_code 651 = .ok (.dup, 1) := by decide +kernel
theorem d_m4_652 : decode method_4_code 652 = .ok (.iconst 2, 1) := by decide +kernel
theorem d_m4_653 : decode method_4_code 653 = .ok (.bipush 48, 2) := by decide +kernel
theorem d_m4_655 : decode method_4_code 655 = .ok (.castore, 1) := by decide +kernel
theorem d_m4_656 : decode method_4_code 656 = .ok (.dup, 1) := by decide +kernel
theorem d_m4_657 : decode method_4_code 657 = .ok (.iconst 3, 1) := by decide +kernel
theorem d_m4_658 : decode method_4_code 658 = .ok (.bipush 48, 2) := by decide +kernel
theorem d_m4_660 : decode method_4_code 660 = .ok (.castore, 1) := by decide +kernel
theorem d_m4_661 : decode method_4_code 661 = .ok (.dup, 1) := by decide +kernel
theorem d_m4_662 : decode method_4_code 662 = .ok (.iconst 4, 1) := by decide +kernel
theorem d_m4_663 : decode method_4_code 663 = .ok (.bipush 48, 2) := by decide +kernel
theorem d_m4_665 : decode method_4_code 665 = .ok (.castore, 1) := by decide +kernel
theorem d_m4_666 : decode method_4_code 666 = .ok (.dup, 1) := by decide +kernel
theorem d_m4_667 : decode method_4_code 667 = .ok (.iconst 5, 1) := by decide +kernel
theorem d_m4_668 : decode method_4_code 668 = .ok (.bipush 48, 2) := by decide +kernel
theorem d_m4_670 : decode method_4_code 670 = .ok (.castore, 1) := by decide +kernel
theorem d_m4_671 : decode method_4_code 671 = .ok (.dup, 1) := by decide +kernel
theorem d_m4_672 : decode method_4_code 672 = .ok (.bipush 6, 2) := by decide +kernel
theorem d_m4_674 : decode method_4_code 674 = .ok (.bipush 48, 2) := by decide +kernel
theorem d_m4_676 : decode method_4_code 676 = .ok (.castore, 1) := by decide +kernel
theorem d_m4_677 : decode method_4_code 677 = .ok (.dup, 1) := by decide +kernel
theorem d_m4_678 : decode method_4_code 678 = .ok (.bipush 7, 2) := by decide +kernel
theorem d_m4_680 : decode method_4_code 680 = .ok (.bipush 48, 2) := by decide +kernel
theorem d_m4_682 : decode method_4_code 682 = .ok (.castore, 1) := by decide +kernel
theorem d_m4_683 : decode method_4_code 683 = .ok (.dup, 1) := by decide +kernel
theorem d_m4_684 : decode method_4_code 684 = .ok (.bipush 8, 2) := by decide +kernel
theorem d_m4_686 : decode method_4_code 686 = .ok (.bipush 48, 2) := by decide +kernel
theorem d_m4_688 : decode method_4_code 688 = .ok (.castore, 1) := by decide +kernel
theorem d_m4_689 : decode method_4_code 689 = .ok (.dup, 1) := by decide +kernel
theorem d_m4_690 : decode method_4_code 690 = .ok (.bipush 9, 2) := by decide +kernel
theorem d_m4_692 : decode method_4_code 692 = .ok (.bipush 48, 2) := by decide +kernel
theorem d_m4_694 : decode method_4_code 694 = .ok (.castore, 1) := by decide +kernel
theorem d_m4_695 : decode method_4_code 695 = .ok (.dup, 1) := by decide +kernel
theorem d_m4_696 : decode method_4_code 696 = .ok (.bipush 10, 2) := by decide +kernel
theorem d_m4_698 : decode method_4_code 698 = .ok (.bipush 48, 2) := by decide +kernel
theorem d_m4_700 : decode method_4_code 700 = .ok (.castore, 1) := by decide +kernel
theorem d_m4_701 : decode method_4_code 701 = .ok (.dup, 1) := by decide +kernel
theorem d_m4_702 : decode method_4_code 702 = .ok (.bipush 11, 2) := by decide +kernel
theorem d_m4_704 : decode method_4_code 704 = .ok (.bipush 48, 2) := by decide +kernel
theorem d_m4_706 : decode method_4_code 706 = .ok (.castore, 1) := by decide +kernel
theorem d_m4_707 : decode method_4_code 707 = .ok (.dup, 1) := by decide +kernel
theorem d_m4_708 : decode method_4_code 708 = .ok (.bipush 12, 2) := by decide +kernel
theorem d_m4_710 : decode method_4_code 710 = .ok (.bipush 48, 2) := by decide +kernel
theorem d_m4_712 : decode method_4_code 712 = .ok (.castore, 1) := by decide +kernel
theorem d_m4_713 : decode method_4_code 713 = .ok (.dup, 1) := by decide +kernel
theorem d_m4_714 : decode method_4_code 714 = .ok (.bipush 13, 2) := by decide +kernel
theorem d_m4_716 : decode method_4_code 716 = .ok (.bipush 48, 2) := by decide +kernel
theorem d_m4_718 : decode method_4_code 718 = .ok (.castore, 1) := by decide +kernel
theorem d_m4_719 : decode method_4_code 719 = .ok (.dup, 1) := by decide +kernel
theorem d_m4_720 : decode method_4_code 720 = .ok (.bipush 14, 2) := by decide +kernel
theorem d_m4_722 : decode method_4_code 722 = .ok (.bipush 48, 2) := by decide +kernel
theorem d_m4_724 : decode method_4_code 724 = .ok (.castore, 1) := by decide +kernel
theorem d_m4_725 : decode method_4_code 725 = .ok (.dup, 1) := by decide +kernel
theorem d_m4_726 : decode method_4_code 726 = .ok (.bipush 15, 2) := by decide +kernel
theorem d_m4_728 : decode method_4_code 728 = .ok (.bipush 48, 2) := by decide +kernel
theorem d_m4_730 : decode method_4_code 730 = .ok (.castore, 1) := by decide +kernel
theorem d_m4_731 : decode method_4_code 731 = .ok (.dup, 1) := by decide +kernel
theorem d_m4_732 : decode method_4_code 732 = .ok (.bipush 16, 2) := by decide +kernel
theorem d_m4_734 : decode method_4_code 734 = .ok (.bipush 48, 2) := by decide +kernel
theorem d_m4_736 : decode method_4_code 736 = .ok (.castore, 1) := by decide +kernel
theorem d_m4_737 : decode method_4_code 737 = .ok (.dup, 1) := by decide +kernel
theorem d_m4_738 : decode method_4_code 738 = .ok (.bipush 17, 2) := by decide +kernel
theorem d_m4_740 : decode method_4_code 740 = .ok (.bipush 48, 2) := by decide +kernel
theorem d_m4_742 : decode method_4_code 742 = .ok (.castore, 1) := by decide +kernel
theorem d_m4_743 : decode method_4_code 743 = .ok (.dup, 1) := by decide +kernel
theorem d_m4_744 : decode method_4_code 744 = .ok (.bipush 18, 2) := by decide +kernel
theorem d_m4_746 : decode method_4_code 746 = .ok (.bipush 48, 2) := by decide +kernel
theorem d_m4_748 : decode method_4_code 748 = .ok (.castore, 1) := by decide +kernel
theorem d_m4_749 : decode method_4_code 749 = .ok (.dup, 1) := by decide +kernel
theorem d_m4_750 : decode method_4_code 750 = .ok (.bipush 19, 2) := by decide +kernel
theorem d_m4_752 : decode method_4_code 752 = .ok (.bipush 48, 2) := by decide +kernel
theorem d_m4_754 : decode method_4_code 754 = .ok (.castore, 1) := by decide +kernel
theorem d_m4_755 : decode method_4_code 755 = .ok (.dup, 1) := by decide +kernel
theorem d_m4_756 : decode method_4_code 756 = .ok (.bipush 20, 2) := by decide +kernel
theorem d_m4_758 : decode method_4_code 758 = .ok (.bipush 48, 2) := by decide +kernel
theorem d_m4_760 : decode method_4_code 760 = .ok (.castore, 1) := by decide +kernel
theorem d_m4_761 : decode method_4_code 761 = .ok (.dup, 1) := by decide +kernel
theorem d_m4_762 : decode method_4_code 762 = .ok (.bipush 21, 2) := by decide +kernel
theorem d_m4_764 : decode method_4_code 764 = .ok (.bipush 48, 2) := by decide +kernel
theorem d_m4_766 : decode method_4_code 766 = .ok (.castore, 1) := by decide +kernel
theorem d_m4_767 : decode method_4_code 767 = .ok (.dup, 1) := by decide +kernel
theorem d_m4_768 : decode method_4_code 768 = .ok (.bipush 22, 2) := by decide +kernel
theorem d_m4_770 : decode method_4_code 770 = .ok (.bipush 48, 2) := by decide +kernel
theorem d_m4_772 : decode method_4_code 772 = .ok (.castore, 1) := by decide +kernel
theorem d_m4_773 : decode method_4_code 773 = .ok (.dup, 1) := by decide +kernel
theorem d_m4_774 : decode method_4_code 774 = .ok (.bipush 23, 2) := by decide +kernel
theorem d_m4_776 : decode method_4_code 776 = .ok (.bipush 48, 2) := by decide +kernel
theorem d_m4_778 : decode method_4_code 778 = .ok (.castore, 1) := by decide +kernel
theorem d_m4_779 : decode method_4_code 779 = .ok (.dup, 1) := by decide +kernel
theorem d_m4_780 : decode method_4_code 780 = .ok (.bipush 24, 2) := by decide +kernel
theorem d_m4_782 : decode method_4_code 782 = .ok (.bipush 48, 2) := by decide +kernel
theorem d_m4_784 : decode method_4_code 784 = .ok (.castore, 1) := by decide +kernel
theorem d_m4_785 : decode method_4_code 785 = .ok (.dup, 1) := by decide +kernel
theorem d_m4_786 : decode method_4_code 786 = .ok (.bipush 25, 2) := by decide +kernel
theorem d_m4_788 : decode method_4_code 788 = .ok (.bipush 48, 2) := by decide +kernel
theorem d_m4_790 : decode method_4_code 790 = .ok (.castore, 1) := by decide +kernel
theorem d_m4_791 : decode method_4_code 791 = .ok (.dup, 1) := by decide +kernel
theorem d_m4_792 : decode method_4_code 792 = .ok (.bipush 26, 2) := by decide +kernel
theorem d_m4_794 : decode method_4_code 794 = .ok (.bipush 48, 2) := by decide +kernel
theorem d_m4_796 : decode method_4_code 796 = .ok (.castore, 1) := by decide +kernel
theorem d_m4_797 : decode method_4_code 797 = .ok (.dup, 1) := by decide +kernel
theorem d_m4_798 : decode method_4_code 798 = .ok (.bipush 27, 2) := by decide +kernel
theorem d_m4_800 : decode method_4_code 800 = .ok (.bipush 48, 2) := by decide +kernel
theorem d_m4_802 : decode method_4_code 802 = .ok (.castore, 1) := by decide +kernel
theorem d_m4_803 : decode method_4_code 803 = .ok (.dup, 1) := by decide +kernel
theorem d_m4_804 : decode method_4_code 804 = .ok (.bipush 28, 2) := by decide +kernel
theorem d_m4_806 : decode method_4_code 806 = .ok (.bipush 48, 2) := by decide +kernel
theorem d_m4_808 : decode method_4_code 808 = .ok (.castore, 1) := by decide +kernel
theorem d_m4_809 : decode method_4_code 809 = .ok (.dup, 1) := by decide +kernel
theorem d_m4_810 : decode method_4_code 810 = .ok (.bipush 29, 2) := by decide +kernel
theorem d_m4_812 : decode method_4_code 812 = .ok (.bipush 48, 2) := by decide +kernel
theorem d_m4_814 : decode method_4_code 814 = .ok (.castore, 1) := by decide +kernel
theorem d_m4_815 : decode method_4_code 815 = .ok (.dup, 1) := by decide +kernel
theorem d_m4_816 : decode method_4_code 816 = .ok (.bipush 30, 2) := by decide +kernel
theorem d_m4_818 : decode method_4_code 818 = .ok (.bipush 48, 2) := by decide +kernel
theorem d_m4_820 : decode method_4_code 820 = .ok (.castore, 1) := by decide +kernel
theorem d_m4_821 : decode method_4_code 821 = .ok (.dup, 1) := by decide +kernel
theorem d_m4_822 : decode method_4_code 822 = .ok (.bipush 31, 2) := by decide +kernel
theorem d_m4_824 : decode method_4_code 824 = .ok (.bipush 48, 2) := by decide +kernel
theorem d_m4_826 : decode method_4_code 826 = .ok (.castore, 1) := by decide +kernel
theorem d_m4_827 : decode method_4_code 827 = .ok (.astore_n 2, 1) := by decide +kernel
theorem d_prog_13_m9_0 : decode prog_13_method_9_code 0 = .ok (.aload_n 1, 1) := by decide +kernel
theorem d_prog_13_m9_1 : decode prog_13_method_9_code 1 = .ok (.instanceof 20, 3) := by decide +kernel
theorem d_prog_13_m9_4 : decode prog_13_method_9_code 4 = .ok (.ifCond .eq 59, 3) := by decide +kernel
theorem d_prog_13_m9_7 : decode prog_13_method_9_code 7 = .ok (.aload_n 1, 1) := by decide +kernel
theorem d_prog_13_m9_8 : decode prog_13_method_9_code 8 = .ok (.checkcast 20, 3) := by decide +kernel
theorem d_prog_13_m9_11 : decode prog_13_method_9_code 11 = .ok (.astore_n 2, 1) := by decide +kernel
theorem d_prog_13_m9_12 : decode prog_13_method_9_code 12 = .ok (.aload_n 0, 1) := by decide +kernel
theorem d_prog_13_m9_13 : decode prog_13_method_9_code 13 = .ok (.getfield 47, 3) := by decide +kernel
theorem d_prog_13_m9_16 : decode prog_13_method_9_code 16 = .ok (.aload_n 2, 1) := by decide +kernel
theorem d_prog_13_m9_17 : decode prog_13_method_9_code 17 = .ok (.getfield 47, 3) := by decide +kernel
theorem d_prog_13_m9_20 : decode prog_13_method_9_code 20 = .ok (.if_icmp .ne 43, 3) := by decide +kernel
theorem d_prog_13_m9_23 : decode prog_13_method_9_code 23 = .ok (.aload_n 0, 1) := by decide +kernel
theorem d_prog_13_m9_24 : decode prog_13_method_9_code 24 = .ok (.getfield 51, 3) := by decide +kernel
theorem d_prog_13_m9_27 : decode prog_13_method_9_code 27 = .ok (.aload_n 2, 1) := by decide +kernel
theorem d_prog_13_m9_28 : decode prog_13_method_9_code 28 = .ok (.getfield 51, 3) := by decide +kernel
theorem d_prog_13_m9_31 : decode prog_13_method_9_code 31 = .ok (.if_acmp .ne 32, 3) := by decide +kernel
theorem d_prog_13_m9_34 : decode prog_13_method_9_code 34 = .ok (.aload_n 0, 1) := by decide +kernel
theorem d_prog_13_m9_35 : decode prog_13_method_9_code 35 = .ok (.getfield 54, 3) := by decide +kernel
theorem d_prog_13_m9_38 : decode prog_13_method_9_code 38 = .ok (.aload_n 2, 1) := by decide +kernel
theorem d_prog_13_m9_39 : decode prog_13_method_9_code 39 = .ok (.getfield 54, 3) := by decide +kernel
theorem d_prog_13_m9_42 : decode prog_13_method_9_code 42 = .ok (.invokevirtual 115, 3) := by decide +kernel
theorem pd27 : parseMethodDescriptor "(Ljava/lang/Object;)Z" = some ⟨[(.object "java/lang/Object")], some .boolean⟩ := by decide +kernel
theorem d_prog_13_m9_45 : decode prog_13_method_9_code 45 = .ok (.ifCond .eq 18, 3) := by decide +kernel
theorem d_prog_13_m9_63 : decode prog_13_method_9_code 63 = .ok (.iconst 0, 1) := by decide +kernel
theorem d_prog_13_m9_64 : decode prog_13_method_9_code 64 = .ok (.ireturn, 1) := by decide +kernel
theorem d_prog_13_m9_48 : decode prog_13_method_9_code 48 = .ok (.aload_n 0, 1) := by decide +kernel
theorem d_prog_13_m9_49 : decode prog_13_method_9_code 49 = .ok (.getfield 57, 3) := by decide +kernel
theorem d_prog_13_m9_52 : decode prog_13_method_9_code 52 = .ok (.aload_n 2, 1) := by decide +kernel
theorem d_prog_13_m9_53 : decode prog_13_method_9_code 53 = .ok (.getfield 57, 3) := by decide +kernel
theorem d_prog_13_m9_56 : decode prog_13_method_9_code 56 = .ok (.if_icmp .ne 7, 3) := by decide +kernel
theorem d_prog_13_m9_59 : decode prog_13_method_9_code 59 = .ok (.iconst 1, 1) := by decide +kernel
theorem d_prog_13_m9_60 : decode prog_13_method_9_code 60 = .ok (.goto 4, 3) := by decide +kernel
theorem pd28 : parseMethodDescriptor "(I)Lcom/example/campo_grande/campogrande/SignatureAlgorithm;" = some ⟨[.int], some (.object "com/example/campo_grande/campogrande/SignatureAlgorithm")⟩ := by decide +kernel
theorem pd29 : parseMethodDescriptor "(II)Ljava/lang/String;" = some ⟨[.int, .int], some (.object "java/lang/String")⟩ := by decide +kernel
theorem pd30 : parseMethodDescriptor "(ILcom/example/campo_grande/campogrande/SignatureAlgorithm;Ljava/lang/String;I)V" = some ⟨[.int, (.object "com/example/campo_grande/campogrande/SignatureAlgorithm"), (.object "java/lang/String"), .int], none⟩ := by decide +kernel
theorem pd31 : parseMethodDescriptor "(I)Ljava/lang/Integer;" = some ⟨[.int], some (.object "java/lang/Integer")⟩ := by decide +kernel

theorem lat0 : Lat [] := fun _ q => nomatch q
theorem latS {c : Int32} {cs : List Int32} (h : 0 ≤ c.toInt ∧ c.toInt ≤ 255) (L : Lat cs) : Lat (c :: cs) := fun x q => (List.mem_cons.mp q).elim (fun z => z ▸ h) (L x)
theorem m255 (x : Int32) : 0 ≤ (x &&& (255 : Int32)).toInt ∧ (x &&& (255 : Int32)).toInt ≤ 255 := c_and x 255 (by decide)
theorem t32s (i : Nat) : i.toInt32 + 1 = (i + 1).toInt32 := by
  show Int32.ofNat i + 1 = Int32.ofNat (i + 1)
  rw [Int32.ofNat_add]; rfl
theorem lo8_lo8 (x : Int32) : nar .byte x.toInt8.toInt32 = x.toInt8.toInt32 := by simp [nar]
theorem ge255 {cs : List Int32} (L : Lat cs) {i : Nat} (hi : i < cs.length) : ¬ (255 : Int32) < cs[i] := by
  have := (L _ (List.getElem_mem hi)).2
  rw [Int32.lt_iff_toInt_lt]; have e : (255 : Int32).toInt = 255 := rfl; omega
theorem cmp_set {cs : List Int32} {vs : List Value} {i : Nat} (hi : i < cs.length) (hv : vs.length = cs.length) : (by8 (cs.take i) ++ vs.drop i).set i (.int cs[i].toInt8.toInt32) = by8 (cs.take (i + 1)) ++ vs.drop (i + 1) := by
  have h1 : (by8 (cs.take i)).length = i := by simp; omega
  rw [List.set_append_right _ _ (by omega), h1, Nat.sub_self, List.drop_eq_getElem_cons (by omega : i < vs.length), List.set_cons_zero, List.take_succ_eq_append_getElem hi]
  simp only [by8, List.map_append, List.map_cons, List.map_nil, List.append_assoc, List.cons_append, List.nil_append]
theorem lt32 {a b : Nat} (ha : a < 2 ^ 31) (hb : b < 2 ^ 31) : a.toInt32 < b.toInt32 ↔ a < b := by
  rw [Int32.lt_iff_toInt_lt, (len32 ha).2.2, (len32 hb).2.2]; omega
theorem eq32 {a b : Nat} (ha : a < 2 ^ 31) (hb : b < 2 ^ 31) : a.toInt32 = b.toInt32 ↔ a = b := by
  rw [← Int32.toInt_inj, (len32 ha).2.2, (len32 hb).2.2]; omega

theorem shr0 (x : Int32) : x >>> ((0 : Int32) &&& 31) = x := by
  have e : (0 : Int32) &&& 31 = 0 := by decide
  rw [e]; simp
theorem lo8m {x : Int32} (h : 0 ≤ x.toInt ∧ x.toInt ≤ 255) : x.toInt8.toInt32 &&& (255 : Int32) = x := by
  apply Int32.toInt_inj.mp
  have e1 := c_mask x.toInt8.toInt32 255 8 (by decide) (by decide)
  rw [e1]
  have e2 := c_i2b x
  omega
theorem i2cx {x : Int32} (h : 0 ≤ x.toInt ∧ x.toInt ≤ 65535) : x.toUInt32.toUInt16.toUInt32.toInt32 = x := by
  apply Int32.toInt_inj.mp
  have e2 := c_i2c x
  omega
theorem narc {x : Int32} (h : 0 ≤ x.toInt ∧ x.toInt ≤ 65535) : narrow .char (.int x) = .int x := by
  show Value.int _ = _
  rw [i2cx h]
theorem Own.Lat.at {cs : List Int32} (L : Lat cs) {i : Nat} (hi : i < cs.length) : 0 ≤ (cs.getD i 0).toInt ∧ (cs.getD i 0).toInt ≤ 255 := by
  rw [List.getD_eq_getElem?_getD, List.getElem?_eq_getElem hi]; exact L _ (List.getElem_mem hi)
theorem to16 {x : Int} (h : 0 ≤ x ∧ x ≤ 255) : 0 ≤ x ∧ x ≤ 65535 := by omega
theorem by8_at {cs : List Int32} {i : Nat} (hi : i < cs.length) : (by8 cs)[i.toInt32.toNatClampNeg]? = some (.int (cs.getD i 0).toInt8.toInt32) ↔ i.toInt32.toNatClampNeg = i ∨ (by8 cs)[i.toInt32.toNatClampNeg]? = some (.int (cs.getD i 0).toInt8.toInt32) := by
  constructor
  · exact Or.inr
  · rintro (h | h)
    · rw [h]; simp [hi]
    · exact h
theorem by8_get {cs : List Int32} {i : Nat} (hi : i < cs.length) (hl : cs.length < 2 ^ 31) : (by8 cs)[i.toInt32.toNatClampNeg]? = some (.int (cs.getD i 0).toInt8.toInt32) := (by8_at hi).mpr (Or.inl (len32 (by omega)).2.1)
theorem lo8_inj {x y : Int32} (h : 0 ≤ x.toInt ∧ x.toInt ≤ 255) (h' : 0 ≤ y.toInt ∧ y.toInt ≤ 255) (q : x.toInt8.toInt32 = y.toInt8.toInt32) : x = y := by
  rw [← lo8m h, ← lo8m h', q]
theorem take_step {cs ds : List Int32} {i : Nat} (h : cs.take i = ds.take i) (hi : i < cs.length) (hj : i < ds.length) (e : cs.getD i 0 = ds.getD i 0) : cs.take (i + 1) = ds.take (i + 1) := by
  rw [List.take_succ_eq_append_getElem hi, List.take_succ_eq_append_getElem hj, h]
  rw [List.getD_eq_getElem?_getD, List.getElem?_eq_getElem hi, List.getD_eq_getElem?_getD, List.getElem?_eq_getElem hj] at e
  have e' : cs[i] = ds[i] := e
  rw [e']
theorem ite1 {P : Prop} [Decidable P] (h : P) : (1 : Int32) = if P then 1 else 0 := (if_pos h).symm
theorem ite0 {P : Prop} [Decidable P] (h : ¬ P) : (0 : Int32) = if P then 1 else 0 := (if_neg h).symm
theorem narb {P : Prop} [Decidable P] : narrow .boolean (.int (if P then (1 : Int32) else 0)) = .int (if P then (1 : Int32) else 0) := by split <;> decide


def eOf (e0 e1 e2 : Addr) (i : Int32) : Addr := if i = 0 then e0 else if i = 1 then e1 else e2
def dlOf (i : Int32) : Int32 := if i = 0 then 32 else if i = 1 then 20 else 16
def i3 (i : Int32) : Prop := i = 0 ∨ i = 1 ∨ i = 2
theorem eOf_exa {Z : State} {h : Heap} {e0 e1 e2 : Addr} {C : String} (i : Int32) (E0 : Exa Z h e0 C) (E1 : Exa Z h e1 C) (E2 : Exa Z h e2 C) : Exa Z h (eOf e0 e1 e2 i) C := by
  unfold eOf; split
  · exact E0
  · split
    · exact E1
    · exact E2
theorem eOf_fld {Z : State} {h : Heap} {e0 e1 e2 : Addr} {C n d : String} (i : Int32) (E0 : Fld Z h e0 C n d (.int 32)) (E1 : Fld Z h e1 C n d (.int 20)) (E2 : Fld Z h e2 C n d (.int 16)) : Fld Z h (eOf e0 e1 e2 i) C n d (.int (dlOf i)) := by
  unfold eOf dlOf; split
  · exact E0
  · split
    · exact E1
    · exact E2
theorem eOf_inj {Z : State} {h : Heap} {e0 e1 e2 : Addr} {C n d : String} {i j : Int32} (E0 : Fld Z h e0 C n d (.int 32)) (E1 : Fld Z h e1 C n d (.int 20)) (E2 : Fld Z h e2 C n d (.int 16)) (hi : i3 i) (hj : i3 j) (q : eOf e0 e1 e2 i = eOf e0 e1 e2 j) : i = j := by
  have n1 : e0 ≠ e1 := Fld.ne E0 E1 (by simp)
  have n2 : e0 ≠ e2 := Fld.ne E0 E2 (by simp)
  have n3 : e1 ≠ e2 := Fld.ne E1 E2 (by simp)
  have d10 : ¬ (1 : Int32) = 0 := by decide
  have d20 : ¬ (2 : Int32) = 0 := by decide
  have d21 : ¬ (2 : Int32) = 1 := by decide
  rcases hi with rfl | rfl | rfl <;> rcases hj with rfl | rfl | rfl <;> simp only [eOf, d10, d20, d21, if_true, if_false] at q <;> first | rfl | exact absurd q n1 | exact absurd q n2 | exact absurd q n3 | exact absurd q n1.symm | exact absurd q n2.symm | exact absurd q n3.symm
def HexC (c : Int32) : Prop := (48 ≤ c.toInt ∧ c.toInt ≤ 57) ∨ (97 ≤ c.toInt ∧ c.toInt ≤ 102)
theorem hex_lat {cs : List Int32} (H : ∀ c ∈ cs, HexC c) : Lat cs := fun c hc => by rcases H c hc with h | h <;> omega
theorem hex_at {cs : List Int32} (H : ∀ c ∈ cs, HexC c) {i : Nat} (hi : i < cs.length) : HexC (cs.getD i 0) := by
  rw [List.getD_eq_getElem?_getD, List.getElem?_eq_getElem hi]; exact H _ (List.getElem_mem hi)
theorem mod3 (x : Int32) : i3 ((x &&& (3 : Int32)) % (3 : Int32)) := by
  have h1 := c_mask x 3 2 (by decide) (by decide)
  have h2 := (c_irem (x &&& 3) 3 3 (by decide)).1 (by rw [h1]; omega)
  have e0 : (0 : Int32).toInt = 0 := rfl
  have e1 : (1 : Int32).toInt = 1 := rfl
  have e2 : (2 : Int32).toInt = 2 := rfl
  have : ((x &&& (3 : Int32)) % (3 : Int32)).toInt = 0 ∨ ((x &&& (3 : Int32)) % (3 : Int32)).toInt = 1 ∨ ((x &&& (3 : Int32)) % (3 : Int32)).toInt = 2 := by omega
  rcases this with q | q | q
  · exact Or.inl (Int32.toInt_inj.mp (q.trans e0.symm))
  · exact Or.inr (Or.inl (Int32.toInt_inj.mp (q.trans e1.symm)))
  · exact Or.inr (Or.inr (Int32.toInt_inj.mp (q.trans e2.symm)))
theorem pos31 (x : Int32) : ¬ (x &&& (2147483647 : Int32)) < 0 := by
  have := (c_and x 2147483647 (by decide)).1
  rw [Int32.lt_iff_toInt_lt]; have e0 : (0 : Int32).toInt = 0 := rfl; omega

def hxd (n : Int32) : Int32 := if n < 10 then 48 + n else (97 + n) - 10
def hexd (v : Int32) : Int32 := hxd (v &&& (15 : Int32))
theorem m15 (n : Int32) : 0 ≤ (n &&& (15 : Int32)).toInt ∧ (n &&& (15 : Int32)).toInt ≤ 15 := c_and n 15 (by decide)
theorem hxdT : ∀ m : Fin 16, HexC (hxd (Int32.ofNat m.1)) := by unfold HexC; decide +kernel
theorem hxdI : ∀ m m' : Fin 16, hxd (Int32.ofNat m.1) = hxd (Int32.ofNat m'.1) → m = m' := by decide +kernel
theorem m15f (v : Int32) : ∃ m : Fin 16, (v &&& (15 : Int32)) = Int32.ofNat m.1 := by
  have h := m15 v
  refine ⟨⟨(v &&& (15 : Int32)).toInt.toNat, by omega⟩, Int32.toInt_inj.mp ?_⟩
  show (v &&& (15 : Int32)).toInt = (((v &&& (15 : Int32)).toInt.toNat).toInt32).toInt
  rw [(len32 (by omega)).2.2]; omega
theorem hexd_hex (v : Int32) : HexC (hexd v) := by
  obtain ⟨m, hm⟩ := m15f v
  unfold hexd; rw [hm]; exact hxdT m
theorem hexd_inj {v w : Int32} (q : hexd v = hexd w) : v.toInt % 16 = w.toInt % 16 := by
  have h1 := c_mask v 15 4 (by decide) (by decide)
  have h2 := c_mask w 15 4 (by decide) (by decide)
  obtain ⟨m, hm⟩ := m15f v
  obtain ⟨m', hm'⟩ := m15f w
  unfold hexd at q
  rw [hm, hm'] at q
  have e := hxdI m m' q
  subst e
  rw [hm] at h1; rw [hm'] at h2
  have := h1.symm.trans h2
  simpa using this
theorem hex_rng {c : Int32} (h : HexC c) : 0 ≤ c.toInt ∧ c.toInt ≤ 255 := by rcases h with h | h <;> omega
theorem hex_nar {c : Int32} (h : HexC c) : nar .char c = c := i2cx (to16 (hex_rng h))
theorem hex48 : HexC (48 : Int32) := Or.inl ⟨by decide, by decide⟩
theorem l48 : 0 ≤ (48 : Int32).toInt ∧ (48 : Int32).toInt ≤ 255 := by decide
def S12 (x : Int32) : Prop := 0 ≤ x.toInt ∧ x.toInt ≤ 4095
theorem s12 (x : Int32) : S12 (x &&& (4095 : Int32)) := c_and x 4095 (by decide)
def sg (i b : Int32) : List Int32 :=
  if i = 0 then hexd b :: (List.replicate 31 48 ++ hexd (XT.ushr b 4) :: (List.replicate 30 48 ++ [hexd (XT.ushr b 8)]))
  else if i = 1 then hexd b :: (List.replicate 19 48 ++ hexd (XT.ushr b 4) :: (List.replicate 18 48 ++ [hexd (XT.ushr b 8)]))
  else hexd b :: (List.replicate 15 48 ++ hexd (XT.ushr b 4) :: (List.replicate 14 48 ++ [hexd (XT.ushr b 8)]))
theorem sg_len {i : Int32} (hi : i3 i) (b : Int32) : (sg i b).length.toInt32 = (2 : Int32) * dlOf i := by
  rcases hi with rfl | rfl | rfl <;> simp [sg, dlOf] <;> decide
theorem sg_hex (i b : Int32) : ∀ c ∈ sg i b, HexC c := by
  intro c hc
  unfold sg at hc
  split at hc
  · simp only [List.mem_cons, List.mem_append, List.mem_replicate, List.not_mem_nil, or_false] at hc
    rcases hc with rfl | ⟨-, rfl⟩ | rfl | ⟨-, rfl⟩ | rfl; exact hexd_hex _; exact hex48; exact hexd_hex _; exact hex48; exact hexd_hex _
  · split at hc
    · simp only [List.mem_cons, List.mem_append, List.mem_replicate, List.not_mem_nil, or_false] at hc
      rcases hc with rfl | ⟨-, rfl⟩ | rfl | ⟨-, rfl⟩ | rfl; exact hexd_hex _; exact hex48; exact hexd_hex _; exact hex48; exact hexd_hex _
    · simp only [List.mem_cons, List.mem_append, List.mem_replicate, List.not_mem_nil, or_false] at hc
      rcases hc with rfl | ⟨-, rfl⟩ | rfl | ⟨-, rfl⟩ | rfl; exact hexd_hex _; exact hex48; exact hexd_hex _; exact hex48; exact hexd_hex _
theorem rep_inj {a n : Nat} {x y z f x' y' z' : Int32} (q : x :: (List.replicate a f ++ y :: (List.replicate n f ++ [z])) = x' :: (List.replicate a f ++ y' :: (List.replicate n f ++ [z']))) : x = x' ∧ y = y' ∧ z = z' := by
  injection q with q1 q2
  obtain ⟨-, q4⟩ := List.append_inj q2 (by simp)
  injection q4 with q5 q6
  obtain ⟨-, q8⟩ := List.append_inj q6 (by simp)
  injection q8 with q9 _
  exact ⟨q1, q5, q9⟩
theorem sg_inj {i b c : Int32} (hb : S12 b) (hc : S12 c) (q : sg i b = sg i c) : b = c := by
  have h : hexd b = hexd c ∧ hexd (XT.ushr b 4) = hexd (XT.ushr c 4) ∧ hexd (XT.ushr b 8) = hexd (XT.ushr c 8) := by
    unfold sg at q
    split at q
    · exact rep_inj q
    · split at q
      · exact rep_inj q
      · exact rep_inj q
  obtain ⟨h1, h2, h3⟩ := h
  have h1 := hexd_inj h1; have h2 := hexd_inj h2; have h3 := hexd_inj h3
  have b4 : (XT.ushr b 4).toInt = (b.toInt % 4294967296) / (2 ^ 4 : Nat) := c_iushr b 4 4 (by decide) (by decide)
  have c4 : (XT.ushr c 4).toInt = (c.toInt % 4294967296) / (2 ^ 4 : Nat) := c_iushr c 4 4 (by decide) (by decide)
  have b8 : (XT.ushr b 8).toInt = (b.toInt % 4294967296) / (2 ^ 8 : Nat) := c_iushr b 8 8 (by decide) (by decide)
  have c8 : (XT.ushr c 8).toInt = (c.toInt % 4294967296) / (2 ^ 8 : Nat) := c_iushr c 8 8 (by decide) (by decide)
  rw [b4, c4] at h2
  rw [b8, c8] at h3
  have p4 : (((2 ^ 4 : Nat) : Int)) = 16 := rfl
  have p8 : (((2 ^ 8 : Nat) : Int)) = 256 := rfl
  rw [p4] at h2; rw [p8] at h3
  have := hb.1; have := hb.2; have := hc.1; have := hc.2
  exact Int32.toInt_inj.mp (by omega)
theorem ife {a b : Int32} {c d : Addr} {e f : List Int32} {g i : Int32} : (if b = a ∧ d = c ∧ f = e ∧ i = g then (1 : Int32) else 0) = (if a = b ∧ c = d ∧ e = f ∧ g = i then (1 : Int32) else 0) := by simp only [eq_comm]
theorem Cch.ld {Z : State} {cA : Addr} (F : Cch Z cA) : ∃ vs, Ar Z Z.heap cA (.object "java/lang/Integer") vs ∧ vs.length = 256 ∧ ∀ i, i < 256 → ∃ b, vs[i]? = some (.ref b) ∧ Exa Z Z.heap b "java/lang/Integer" := F
theorem ivof {n : Int32} (h1 : ¬ n < -128) (h2 : ¬ (127 : Int32) < n) : ∃ i : Nat, n + 128 = i.toInt32 ∧ i < 256 := by
  rw [Int32.lt_iff_toInt_lt] at h1 h2
  have e1 : (-128 : Int32).toInt = -128 := rfl
  have e2 : (127 : Int32).toInt = 127 := rfl
  refine ⟨(n.toInt + 128).toNat, Int32.toInt_inj.mp ?_, by omega⟩
  rw [(len32 (by omega)).2.2]
  have e3 : (128 : Int32).toInt = 128 := rfl
  have := c_iadd n 128
  have := rng32 (n + 128)
  omega

abbrev c_cmp5_q (Z : State) (zC : Int32) (fS : Value) (cA : Addr) (e0 : Addr) (e1 : Addr) (e2 : Addr) (h : Heap) (B : Addr → Prop) (a d : Addr) (cs : List Int32) (vs : List Value) (xR : Value) (h' : Heap) : Prop := xR = (.int cs.length.toInt32) ∧ Keep h h' [d] ∧ Ar Z h' d .byte (by8 cs)
def c_cmp5_rm : Room := { frames := 0, cells := 0, slots := 0, locals := 0 }
set_option maxRecDepth 65536 in
set_option maxHeartbeats 40000000 in
theorem c_cmp5 {l : Launch} {Z : State} {a0 : Array Value} {zC : Int32} {fS : Value} {cA : Addr} {e0 : Addr} {e1 : Addr} {e2 : Addr} {h : Heap} {B : Addr → Prop} {a d : Addr} {cs : List Int32} {vs : List Value} (G : Gl Z a0 zC fS cA e0 e1 e2) (hE : En Z B h) (P0 : Ar Z h a .char (cs.map Value.int)) (P1 : Ar Z h d .byte vs) (P2 : Lat cs) (P3 : vs.length = cs.length) (P4 : Z.heap.size ≤ d) (P5 : ¬ B d) : Con l Z [] [] (⟨"java/lang/StringUTF16", "compress", "([CI[BII)I"⟩ : MethodName) jdk_52_method_21_code 7 (some .int) c_cmp5_rm B h #[(.ref a), (.int (0 : Int32)), (.ref d), (.int (0 : Int32)), (.int cs.length.toInt32)] (fun vR hR BR => ∃ xR, vR = some xR ∧ BR = B ∧ c_cmp5_q Z zC fS cA e0 e1 e2 h B a d cs vs xR hR) := by
  have hz0 := hE.1.1
  refine Con.intro (ls := #[.val (.ref a), .val (.int (0 : Int32)), .val (.ref d), .val (.int (0 : Int32)), .val (.int cs.length.toInt32), .unset, .unset]) (plainFor_of_name pn0) G.2.1 hE (fun m => by first | rfl | (simp [entryFrame, mkF, argsToLocals, Value.category]; done) | rfl) ?_
  intro p e s m below meth c T hs X
  have hL := P0.len_lt; rw [List.length_map] at hL
  have hne : a ≠ d := ar_ne P0 P1 (by decide)
  have loop : ∀ (r i : Nat) (T : State) (h1 : Heap) (o : Slot), i + r = cs.length → (o = .unset ∨ ∃ x, o = .val (.int x)) → Wk l Z [] (⟨"java/lang/StringUTF16", "compress", "([CI[BII)I"⟩ : MethodName) jdk_52_method_21_code 7 (some .int) c_cmp5_rm B p e s m #[(.ref a), (.int (0 : Int32)), (.ref d), (.int (0 : Int32)), (.int cs.length.toInt32)] below meth c B T h1 0 0 → Keep h h1 [d] → Ar Z h1 a .char (cs.map Value.int) → Ar Z h1 d .byte (by8 (cs.take i) ++ vs.drop i) → Go l Z [] c_cmp5_rm B (fun vR hR BR => ∃ xR, vR = some xR ∧ BR = B ∧ c_cmp5_q Z zC fS cA e0 e1 e2 h B a d cs vs xR hR) p e s m below T 3 #[.val (.ref a), .val (.int i.toInt32), .val (.ref d), .val (.int i.toInt32), .val (.int cs.length.toInt32), .val (.int i.toInt32), o] [] := by
    intro r
    induction r with
    | zero =>
      intro i T h1 o hi ho X K A D
      obtain rfl : i = cs.length := by omega
      have D : Ar Z h1 d .byte (by8 cs) := by simpa [P3, List.drop_eq_nil_of_le] using D
      refine W.iload (pc' := 5) X d_jdk_52_m21_3 rfl rfl ?_
      refine W.iload (pc' := 7) X d_jdk_52_m21_5 rfl rfl ?_
      refine W.icT (pc' := 44) X d_jdk_52_m21_7 (XT.ii_ge_t (fun q => by rw [Int32.lt_iff_toInt_lt] at q; omega)) (by decide) (by decide) ?_
      refine W.iload (pc' := 46) X d_jdk_52_m21_44 rfl rfl ?_
      exact W.ireturn X d_jdk_52_m21_46 rfl (by decide) rfl (by decide) (by decide) ⟨_, rfl, rfl, ⟨rfl, (Keep.trans (Keep.refl h [d]) K (allS (Or.inl (List.mem_of_getElem? (i := 0) rfl)) all0)), D⟩⟩
    | succ r ih =>
      intro i T h1 o hi ho X K A D
      have hi' : i < cs.length := by omega
      rcases ho with rfl | ⟨x0, rfl⟩
      all_goals
        refine W.iload (pc' := 5) X d_jdk_52_m21_3 rfl rfl ?_
        refine W.iload (pc' := 7) X d_jdk_52_m21_5 rfl rfl ?_
        refine W.icF (pc' := 10) X d_jdk_52_m21_7 (XT.ii_ge_f ((lt32 (by omega) hL).mpr hi')) rfl ?_
        refine W.aloadN (pc' := 11) X d_jdk_52_m21_10 rfl rfl rfl ?_
        refine W.iloadN (pc' := 12) X d_jdk_52_m21_11 rfl rfl ?_
        refine W.caload (pc' := 13) (v := (.int cs[i])) X A (len32 (by omega)).1 (by rw [(len32 (by omega)).2.1]; simp [hi']) d_jdk_52_m21_12 rfl ?_
        refine W.istore (pc' := 15) (ls' := #[.val (.ref a), .val (.int i.toInt32), .val (.ref d), .val (.int i.toInt32), .val (.int cs.length.toInt32), .val (.int i.toInt32), .val (.int cs[i])]) X d_jdk_52_m21_13 rfl rfl ?_
        refine W.iload (pc' := 17) X d_jdk_52_m21_15 rfl rfl ?_
        refine W.sipush (pc' := 20) X (255 : Int32) d_jdk_52_m21_17 (by decide) rfl ?_
        refine W.icT (pc' := 26) X d_jdk_52_m21_20 (XT.ii_le_t (ge255 P2 hi')) (by decide) (by decide) ?_
        refine W.aloadN (pc' := 27) X d_jdk_52_m21_26 rfl rfl rfl ?_
        refine W.iloadN (pc' := 28) X d_jdk_52_m21_27 rfl rfl ?_
        refine W.iload (pc' := 30) X d_jdk_52_m21_28 rfl rfl ?_
        refine W.i2b (pc' := 31) (w := (cs[i]).toInt8.toInt32) X d_jdk_52_m21_30 rfl rfl ?_
        refine W.bastore (pc' := 32) (i := i) X D (len32 (by omega)).1 (len32 (by omega)).2.1 (by simp; omega) (lo8_lo8 _) P4 P5 d_jdk_52_m21_31 rfl fun T h1 X K2 A3 => ?_
        refine W.iinc (pc' := 35) (ls' := #[.val (.ref a), .val (.int (i + 1).toInt32), .val (.ref d), .val (.int i.toInt32), .val (.int cs.length.toInt32), .val (.int i.toInt32), .val (.int cs[i])]) X (1 : Int32) (w := (i + 1).toInt32) d_jdk_52_m21_32 (by decide) rfl (t32s i) rfl rfl ?_
        refine W.iinc (pc' := 38) (ls' := #[.val (.ref a), .val (.int (i + 1).toInt32), .val (.ref d), .val (.int (i + 1).toInt32), .val (.int cs.length.toInt32), .val (.int i.toInt32), .val (.int cs[i])]) X (1 : Int32) (w := (i + 1).toInt32) d_jdk_52_m21_35 (by decide) rfl (t32s i) rfl rfl ?_
        refine W.iinc (pc' := 41) (ls' := #[.val (.ref a), .val (.int (i + 1).toInt32), .val (.ref d), .val (.int (i + 1).toInt32), .val (.int cs.length.toInt32), .val (.int (i + 1).toInt32), .val (.int cs[i])]) X (1 : Int32) (w := (i + 1).toInt32) d_jdk_52_m21_38 (by decide) rfl (t32s i) rfl rfl ?_
        refine W.goto (pc' := 3) X d_jdk_52_m21_41 (by decide) (by decide) ?_
        have F4 := (A.keep K2 (ninS hne nin0))
        have D9 := A3; rw [cmp_set hi' P3] at D9
        exact ih (i + 1) T h1 _ (by omega) (Or.inr ⟨_, rfl⟩) X (K.trans K2 (allS (Or.inl (List.mem_of_getElem? (i := 0) rfl)) all0)) F4 D9
  refine W.iconst (pc' := 1) X (0 : Int32) d_jdk_52_m21_0 (by decide) rfl ?_
  refine W.istore (pc' := 3) (ls' := #[.val (.ref a), .val (.int (0 : Int32)), .val (.ref d), .val (.int (0 : Int32)), .val (.int cs.length.toInt32), .val (.int (0 : Int32)), .unset]) X d_jdk_52_m21_1 rfl rfl ?_
  exact loop cs.length 0 T h .unset (by omega) (Or.inl rfl) X (Keep.refl _ _) P0 (by simpa using P1)
def c_codl_rm : Room := { frames := 0, cells := 0, slots := 0, locals := 0 }
set_option maxRecDepth 65536 in
set_option maxHeartbeats 40000000 in
theorem c_codl {l : Launch} {Z : State} {a0 : Array Value} {zC : Int32} {fS : Value} {cA : Addr} {e0 : Addr} {e1 : Addr} {e2 : Addr} {h : Heap} {B : Addr → Prop} {d : Addr} {vs : List Value} {n : Int32} (G : Gl Z a0 zC fS cA e0 e1 e2) (hE : En Z B h) (P0 : Ar Z h d .byte vs) (P1 : vs.length.toInt32 = n) : Con l Z [] [] (⟨"java/lang/StringUTF16", "coderFromArrayLen", "([BI)B"⟩ : MethodName) jdk_52_method_15_code 2 (some .byte) c_codl_rm B h #[(.ref d), (.int n)] (fun vR hR BR => vR = some (.int (0 : Int32)) ∧ hR = h ∧ BR = B) := by
  have hz0 := hE.1.1
  refine Con.intro (ls := #[.val (.ref d), .val (.int n)]) (plainFor_of_name pn0) G.2.1 hE (fun m => by first | rfl | (simp [entryFrame, mkF, argsToLocals, Value.category]; done) | rfl) ?_
  intro p e s m below meth c T hs X
  refine W.iloadN (pc' := 1) X d_jdk_52_m15_0 rfl rfl ?_
  refine W.aloadN (pc' := 2) X d_jdk_52_m15_1 rfl rfl rfl ?_
  refine W.alen (pc' := 3) (z := n) X P0 P1 d_jdk_52_m15_2 rfl ?_
  refine W.isub (pc' := 4) (w := (0 : Int32)) X d_jdk_52_m15_3 (Int32.sub_self _) rfl ?_
  refine W.bipush (pc' := 6) X (31 : Int32) d_jdk_52_m15_4 (by decide) rfl ?_
  refine W.iushr (pc' := 7) (w := (0 : Int32)) X d_jdk_52_m15_6 (by decide) rfl ?_
  refine W.i2b (pc' := 8) (w := (0 : Int32)) X d_jdk_52_m15_7 (by decide) rfl ?_
  exact W.ireturn X d_jdk_52_m15_8 rfl (by decide) (by decide) (by decide) (by decide) ⟨rfl, rfl, rfl⟩
abbrev c_cmp3_q (Z : State) (zC : Int32) (fS : Value) (cA : Addr) (e0 : Addr) (e1 : Addr) (e2 : Addr) (h : Heap) (B : Addr → Prop) (a : Addr) (cs : List Int32) (xR : Value) (h' : Heap) : Prop := ∃ (t : Addr), xR = (.ref t) ∧ Keep h h' [] ∧ h.size ≤ t ∧ Ar Z h' t .byte (by8 cs)
def c_cmp3_rm : Room := { frames := 1, cells := 1, slots := 64, locals := 18 }
set_option maxRecDepth 65536 in
set_option maxHeartbeats 40000000 in
theorem c_cmp3 {l : Launch} {Z : State} {a0 : Array Value} {zC : Int32} {fS : Value} {cA : Addr} {e0 : Addr} {e1 : Addr} {e2 : Addr} {h : Heap} {B : Addr → Prop} {a : Addr} {cs : List Int32} (G : Gl Z a0 zC fS cA e0 e1 e2) (hE : En Z B h) (P0 : Ar Z h a .char (cs.map Value.int)) (P1 : Lat cs) (P2 : cs.length ≤ 64) : Con l Z [] [] (⟨"java/lang/StringUTF16", "compress", "([CII)[B"⟩ : MethodName) jdk_52_method_16_code 6 (some (.array .byte)) c_cmp3_rm B h #[(.ref a), (.int (0 : Int32)), (.int cs.length.toInt32)] (fun vR hR BR => ∃ xR, vR = some xR ∧ BR = B ∧ c_cmp3_q Z zC fS cA e0 e1 e2 h B a cs xR hR) := by
  have hz0 := hE.1.1
  refine Con.intro (ls := #[.val (.ref a), .val (.int (0 : Int32)), .val (.int cs.length.toInt32), .unset, .unset, .unset]) (plainFor_of_name pn0) G.2.1 hE (fun m => by first | rfl | (simp [entryFrame, mkF, argsToLocals, Value.category]; done) | rfl) ?_
  intro p e s m below meth c T hs X
  refine W.iloadN (pc' := 1) X d_jdk_52_m16_0 rfl rfl ?_
  refine W.newA (aty := .byte) (pc' := 3) (k' := 1) (n' := 64) (cap := 64) X (w36 G) d_jdk_52_m16_1 (len32 (by omega)).1 (by rw [(len32 (by omega)).2.1]; exact P2) (by decide) rfl (by decide) (by decide) (by decide) (by decide) fun T h1 a2 X K3 g4 g5 nb6 A7 => ?_
  have A7 : Ar Z h1 a2 .byte (List.replicate cs.length (.int (0 : Int32))) := by have q := A7; rw [(len32 (by omega)).2.1] at q; exact q
  refine W.astoreN (pc' := 4) (ls' := #[.val (.ref a), .val (.int (0 : Int32)), .val (.int cs.length.toInt32), .val (.ref a2), .unset, .unset]) X d_jdk_52_m16_3 rfl rfl rfl ?_
  refine W.aloadN (pc' := 5) X d_jdk_52_m16_4 rfl rfl rfl ?_
  refine W.iloadN (pc' := 6) X d_jdk_52_m16_5 rfl rfl ?_
  refine W.aloadN (pc' := 7) X d_jdk_52_m16_6 rfl rfl rfl ?_
  refine W.iconst (pc' := 8) X (0 : Int32) d_jdk_52_m16_7 (by decide) rfl ?_
  refine W.iloadN (pc' := 9) X d_jdk_52_m16_8 rfl rfl ?_
  have F8 := (P0.keep K3 nin0)
  refine W.callS (pc' := 12) (W := 0) (argsL := [(.ref a), (.int (0 : Int32)), (.ref a2), (.int (0 : Int32)), (.int cs.length.toInt32)]) (st := []) (k' := 1) (n' := 64) X (c_cmp5 (a := a) (d := a2) (cs := cs) (vs := (List.replicate cs.length (.int (0 : Int32)))) G X.en F8 A7 P1 (by simp) g5 nb6) (w37 G) (w38 G) (w39 G) (w34 G) (by decide) (by decide) (by decide) rfl (lenOf pd1 rfl) rfl rfl (Nat.le_of_eq rfl) d_jdk_52_m16_9 rfl (by decide) (by decide) (by decide) (by decide) (kr fun T h9 xr X z10 q11 => ?_)
  obtain ⟨rfl, K12, F13⟩ := q11
  refine W.istore (pc' := 14) (ls' := #[.val (.ref a), .val (.int (0 : Int32)), .val (.int cs.length.toInt32), .val (.ref a2), .val (.int cs.length.toInt32), .unset]) X d_jdk_52_m16_12 rfl rfl ?_
  refine W.iload (pc' := 16) X d_jdk_52_m16_14 rfl rfl ?_
  refine W.iloadN (pc' := 17) X d_jdk_52_m16_16 rfl rfl ?_
  refine W.icT (pc' := 57) X d_jdk_52_m16_17 (XT.ii_eq_t rfl) (by decide) (by decide) ?_
  refine W.aloadN (pc' := 58) X d_jdk_52_m16_57 rfl rfl rfl ?_
  exact W.areturn X d_jdk_52_m16_58 rfl rfl rfl rfl (by decide) (by decide) ⟨_, rfl, rfl, ⟨a2, rfl, (Keep.trans (Keep.trans (Keep.refl h []) K3 all0) K12 (allS (Or.inr (Nat.le_trans (Nat.le_refl _) g4)) all0)), (Nat.le_trans (Nat.le_refl _) g4), F13⟩⟩
abbrev c_init4_q (Z : State) (zC : Int32) (fS : Value) (cA : Addr) (e0 : Addr) (e1 : Addr) (e2 : Addr) (h : Heap) (B : Addr → Prop) (x a : Addr) (cs : List Int32) (v0 c0 : Value) (h' : Heap) : Prop := ∃ (t : Addr), Keep h h' [x] ∧ h.size ≤ t ∧ Str Z h' x t cs
def c_init4_rm : Room := { frames := 2, cells := 1, slots := 64, locals := 35 }
set_option maxRecDepth 65536 in
set_option maxHeartbeats 40000000 in
theorem c_init4 {l : Launch} {Z : State} {a0 : Array Value} {zC : Int32} {fS : Value} {cA : Addr} {e0 : Addr} {e1 : Addr} {e2 : Addr} {h : Heap} {B : Addr → Prop} {x a : Addr} {cs : List Int32} {v0 c0 : Value} (G : Gl Z a0 zC fS cA e0 e1 e2) (hE : En Z B h) (P0 : Exa Z h x "java/lang/String") (P1 : Fld Z h x "java/lang/String" "value" "[B" v0) (P2 : Fld Z h x "java/lang/String" "coder" "B" c0) (P3 : Ar Z h a .char (cs.map Value.int)) (P4 : Lat cs) (P5 : 0 < cs.length) (P6 : cs.length ≤ 64) (P7 : Z.heap.size ≤ x) (P8 : ¬ B x) : Con l Z [] [] (⟨"java/lang/String", "<init>", "([CIILjava/lang/Void;)V"⟩ : MethodName) jdk_42_method_149_code 6 none c_init4_rm B h #[(.ref x), (.ref a), (.int (0 : Int32)), (.int cs.length.toInt32), .null] (fun vR hR BR => vR = none ∧ BR = B ∧ c_init4_q Z zC fS cA e0 e1 e2 h B x a cs v0 c0 hR) := by
  have hz0 := hE.1.1
  refine Con.intro (ls := #[.val (.ref x), .val (.ref a), .val (.int (0 : Int32)), .val (.int cs.length.toInt32), .val .null, .unset]) (plainFor_of_name pn4) G.2.1 hE (fun m => by first | rfl | (simp [entryFrame, mkF, argsToLocals, Value.category]; done) | rfl) ?_
  intro p e s m below meth c T hs X
  refine W.aloadN (pc' := 1) X d_jdk_42_m149_0 rfl rfl rfl ?_
  refine W.initO (pc' := 4) (W := 0) X (w28 G) (w29 G) (w30 G) d_jdk_42_m149_1 rfl (by decide) (Nat.le_of_eq rfl) (by decide) rfl fun T X => ?_
  refine W.iloadN (pc' := 5) X d_jdk_42_m149_4 rfl rfl ?_
  refine W.ifT (pc' := 27) X d_jdk_42_m149_5 (XT.i0_ne_t (fun q => absurd ((eq32 (b := 0) (by omega) (by decide)).mp q) (by omega))) (by decide) (by decide) ?_
  refine W.getS (pc' := 30) (host := "") X (Or.inl (w31 G)) Via.refl G.2.2.1 d_jdk_42_m149_27 rfl fun T X => ?_
  refine W.ifF (pc' := 33) X d_jdk_42_m149_30 (XT.i0_eq_f G.2.2.2.1) rfl ?_
  refine W.aloadN (pc' := 34) X d_jdk_42_m149_33 rfl rfl rfl ?_
  refine W.iloadN (pc' := 35) X d_jdk_42_m149_34 rfl rfl ?_
  refine W.iloadN (pc' := 36) X d_jdk_42_m149_35 rfl rfl ?_
  have en1 := X.en
  refine W.callS (pc' := 39) (W := 0) (argsL := [(.ref a), (.int (0 : Int32)), (.int cs.length.toInt32)]) (st := []) (k' := 1) (n' := 64) X (c_cmp3 (a := a) (cs := cs) G X.en P3 P4 P6) (w32 G) (w33 G) (w35 G) (w34 G) (by decide) (by decide) (by decide) rfl (lenOf pd2 rfl) rfl rfl (Nat.le_of_eq rfl) d_jdk_42_m149_36 rfl (by decide) (by decide) (by decide) (by decide) (kr fun T h2 xr X z3 q4 => ?_)
  obtain ⟨a5, rfl, K6, g7, F8⟩ := q4
  have g9 : Z.heap.size ≤ a5 := Nat.le_trans (Nat.le_trans hz0 (Nat.le_refl _)) g7
  have nb10 : ¬ B a5 := fun q => absurd (en1.2 _ q) (Nat.not_lt.mpr g7)
  refine W.astore (pc' := 41) (ls' := #[.val (.ref x), .val (.ref a), .val (.int (0 : Int32)), .val (.int cs.length.toInt32), .val .null, .val (.ref a5)]) X d_jdk_42_m149_39 rfl rfl rfl ?_
  refine W.aloadN (pc' := 42) X d_jdk_42_m149_41 rfl rfl rfl ?_
  refine W.aload (pc' := 44) X d_jdk_42_m149_42 rfl rfl rfl ?_
  refine W.iloadN (pc' := 45) X d_jdk_42_m149_44 rfl rfl ?_
  refine W.callS (pc' := 48) (W := 1) (argsL := [(.ref a5), (.int cs.length.toInt32)]) (st := [(.ref x)]) (k' := 1) (n' := 64) X (c_codl (d := a5) (vs := (by8 cs)) (n := cs.length.toInt32) G X.en F8 (by simp)) (w40 G) (w41 G) (w42 G) (w34 G) (by decide) (by decide) (by decide) rfl (lenOf pd3 rfl) rfl rfl (Nat.le_of_eq rfl) d_jdk_42_m149_45 rfl (by decide) (by decide) (by decide) (by decide) (kp fun T X => ?_)
  have F11 := (P2.keep K6 nin0)
  have F12 := (P0.keep K6)
  refine W.putF (pc' := 51) X (w43 G) Via.refl F11 F12 (Or.inr ⟨(w44 G), rfl, rfl⟩) (w19 G) (ty := .byte) (by decide) (by decide) (by decide) P7 P8 d_jdk_42_m149_48 rfl fun T h13 X W14 => ?_
  have F15 := F11.same W14
  refine W.aloadN (pc' := 52) X d_jdk_42_m149_51 rfl rfl rfl ?_
  refine W.aload (pc' := 54) X d_jdk_42_m149_52 rfl rfl rfl ?_
  have F16 := ((P1.keep K6 nin0).other W14 (Or.inr (slot_ne (Or.inr (w46 G)) (Or.inr (w44 G)) (by decide) (t := (.array .byte)) (t' := .byte) (by decide) (by decide))))
  have F17 := (F12.wr W14)
  refine W.putF (pc' := 57) X (w45 G) Via.refl F16 F17 (Or.inr ⟨(w46 G), rfl, rfl⟩) (w19 G) (ty := (.array .byte)) (by decide) rfl rfl P7 P8 d_jdk_42_m149_54 rfl fun T h18 X W19 => ?_
  have F20 := F16.same W19
  have F21 := (F17.wr W19)
  have F22 := (F15.other W19 (Or.inr (slot_ne (Or.inr (w44 G)) (Or.inr (w46 G)) (by decide) (t := .byte) (t' := (.array .byte)) (by decide) (by decide))))
  have F23 := ((F8.keep (Keep.of_wr W14) (ninS (Nat.ne_of_gt (Nat.lt_of_lt_of_le P0.lt (Nat.le_trans (Nat.le_refl _) g7))) nin0)).keep (Keep.of_wr W19) (ninS (Nat.ne_of_gt (Nat.lt_of_lt_of_le P0.lt (Nat.le_trans (Nat.le_refl _) g7))) nin0))
  exact W.vreturn X d_jdk_42_m149_57 rfl (by decide) (by decide) ⟨rfl, rfl, ⟨a5, (Keep.wr (Keep.wr (Keep.trans (Keep.refl h [x]) K6 all0) W14 (Or.inl (List.mem_of_getElem? (i := 0) rfl))) W19 (Or.inl (List.mem_of_getElem? (i := 0) rfl))), (Nat.le_trans (Nat.le_refl _) g7), ⟨F21, F22, F20, F23, P4⟩⟩⟩
abbrev c_init1_q (Z : State) (zC : Int32) (fS : Value) (cA : Addr) (e0 : Addr) (e1 : Addr) (e2 : Addr) (h : Heap) (B : Addr → Prop) (x a : Addr) (cs : List Int32) (v0 c0 : Value) (h' : Heap) : Prop := ∃ (t : Addr), Keep h h' [x] ∧ h.size ≤ t ∧ Str Z h' x t cs
def c_init1_rm : Room := { frames := 3, cells := 1, slots := 64, locals := 52 }
set_option maxRecDepth 65536 in
set_option maxHeartbeats 40000000 in
theorem c_init1 {l : Launch} {Z : State} {a0 : Array Value} {zC : Int32} {fS : Value} {cA : Addr} {e0 : Addr} {e1 : Addr} {e2 : Addr} {h : Heap} {B : Addr → Prop} {x a : Addr} {cs : List Int32} {v0 c0 : Value} (G : Gl Z a0 zC fS cA e0 e1 e2) (hE : En Z B h) (P0 : Exa Z h x "java/lang/String") (P1 : Fld Z h x "java/lang/String" "value" "[B" v0) (P2 : Fld Z h x "java/lang/String" "coder" "B" c0) (P3 : Ar Z h a .char (cs.map Value.int)) (P4 : Lat cs) (P5 : 0 < cs.length) (P6 : cs.length ≤ 64) (P7 : Z.heap.size ≤ x) (P8 : ¬ B x) : Con l Z [] [] (⟨"java/lang/String", "<init>", "([C)V"⟩ : MethodName) jdk_42_method_3_code 2 none c_init1_rm B h #[(.ref x), (.ref a)] (fun vR hR BR => vR = none ∧ BR = B ∧ c_init1_q Z zC fS cA e0 e1 e2 h B x a cs v0 c0 hR) := by
  have hz0 := hE.1.1
  refine Con.intro (ls := #[.val (.ref x), .val (.ref a)]) (plainFor_of_name pn4) G.2.1 hE (fun m => by first | rfl | (simp [entryFrame, mkF, argsToLocals, Value.category]; done) | rfl) ?_
  intro p e s m below meth c T hs X
  refine W.aloadN (pc' := 1) X d_jdk_42_m3_0 rfl rfl rfl ?_
  refine W.aloadN (pc' := 2) X d_jdk_42_m3_1 rfl rfl rfl ?_
  refine W.iconst (pc' := 3) X (0 : Int32) d_jdk_42_m3_2 (by decide) rfl ?_
  refine W.aloadN (pc' := 4) X d_jdk_42_m3_3 rfl rfl rfl ?_
  refine W.alen (pc' := 5) (z := cs.length.toInt32) X P3 (by simp) d_jdk_42_m3_4 rfl ?_
  refine W.aconst_null (pc' := 6) X d_jdk_42_m3_5 rfl ?_
  have en1 := X.en
  refine W.callN (pc' := 9) (W := 0) (argsL := [(.ref a), (.int (0 : Int32)), (.int cs.length.toInt32), .null]) (st := []) (k' := 1) (n' := 64) (a := x) X (c_init4 (x := x) (a := a) (cs := cs) (v0 := v0) (c0 := c0) G X.en P0 P1 P2 P3 P4 P5 P6 P7 P8) rfl (w24 G) (w25 G) (w27 G) (w20 G) (by decide) (by decide) (by decide) rfl (lenOf pd5 rfl) rfl rfl (Nat.le_of_eq rfl) d_jdk_42_m3_6 rfl (by decide) (by decide) (by decide) (by decide) (kv fun T h2 X z3 q4 => ?_)
  obtain ⟨a5, K6, g7, F8⟩ := q4
  have g9 : Z.heap.size ≤ a5 := Nat.le_trans (Nat.le_trans hz0 (Nat.le_refl _)) g7
  have nb10 : ¬ B a5 := fun q => absurd (en1.2 _ q) (Nat.not_lt.mpr g7)
  exact W.vreturn X d_jdk_42_m3_9 rfl (by decide) (by decide) ⟨rfl, rfl, ⟨a5, (Keep.trans (Keep.refl h [x]) K6 (allS (Or.inl (List.mem_of_getElem? (i := 0) rfl)) all0)), (Nat.le_trans (Nat.le_refl _) g7), F8⟩⟩
def c_coder_rm : Room := { frames := 0, cells := 0, slots := 0, locals := 0 }
set_option maxRecDepth 65536 in
set_option maxHeartbeats 40000000 in
theorem c_coder {l : Launch} {Z : State} {a0 : Array Value} {zC : Int32} {fS : Value} {cA : Addr} {e0 : Addr} {e1 : Addr} {e2 : Addr} {h : Heap} {B : Addr → Prop} {a b : Addr} {cs : List Int32} (G : Gl Z a0 zC fS cA e0 e1 e2) (hE : En Z B h) (P0 : Str Z h a b cs) : Con l Z [] [] (⟨"java/lang/String", "coder", "()B"⟩ : MethodName) jdk_42_method_152_code 1 (some .byte) c_coder_rm B h #[(.ref a)] (fun vR hR BR => vR = some (.int (0 : Int32)) ∧ hR = h ∧ BR = B) := by
  have hz0 := hE.1.1
  refine Con.intro (ls := #[.val (.ref a)]) (plainFor_of_name pn4) G.2.1 hE (fun m => by first | rfl | (simp [entryFrame, mkF, argsToLocals, Value.category]; done) | rfl) ?_
  intro p e s m below meth c T hs X
  refine W.getS (pc' := 3) (host := "") X (Or.inl (w31 G)) Via.refl G.2.2.1 d_jdk_42_m152_0 rfl fun T X => ?_
  refine W.ifF (pc' := 6) X d_jdk_42_m152_3 (XT.i0_eq_f G.2.2.2.1) rfl ?_
  refine W.aloadN (pc' := 7) X d_jdk_42_m152_6 rfl rfl rfl ?_
  refine W.getF (pc' := 10) X (w43 G) Via.refl P0.cod d_jdk_42_m152_7 rfl fun T X => ?_
  refine W.goto (pc' := 14) X d_jdk_42_m152_10 (by decide) (by decide) ?_
  exact W.ireturn X d_jdk_42_m152_14 rfl (by decide) (by decide) (by decide) (by decide) ⟨rfl, rfl, rfl⟩
def c_len_rm : Room := { frames := 1, cells := 0, slots := 0, locals := 13 }
set_option maxRecDepth 65536 in
set_option maxHeartbeats 40000000 in
theorem c_len {l : Launch} {Z : State} {a0 : Array Value} {zC : Int32} {fS : Value} {cA : Addr} {e0 : Addr} {e1 : Addr} {e2 : Addr} {h : Heap} {B : Addr → Prop} {a b : Addr} {cs : List Int32} (G : Gl Z a0 zC fS cA e0 e1 e2) (hE : En Z B h) (P0 : Str Z h a b cs) : Con l Z [] [] (⟨"java/lang/String", "length", "()I"⟩ : MethodName) jdk_42_method_54_code 1 (some .int) c_len_rm B h #[(.ref a)] (fun vR hR BR => vR = some (.int cs.length.toInt32) ∧ hR = h ∧ BR = B) := by
  have hz0 := hE.1.1
  refine Con.intro (ls := #[.val (.ref a)]) (plainFor_of_name pn4) G.2.1 hE (fun m => by first | rfl | (simp [entryFrame, mkF, argsToLocals, Value.category]; done) | rfl) ?_
  intro p e s m below meth c T hs X
  refine W.aloadN (pc' := 1) X d_jdk_42_m54_0 rfl rfl rfl ?_
  refine W.getF (pc' := 4) X (w45 G) Via.refl P0.val d_jdk_42_m54_1 rfl fun T X => ?_
  refine W.alen (pc' := 5) (z := (cs).length.toInt32) X P0.arr (by simp) d_jdk_42_m54_4 rfl ?_
  refine W.aloadN (pc' := 6) X d_jdk_42_m54_5 rfl rfl rfl ?_
  refine W.callV (pc' := 9) (W := 1) (argsL := []) (st := [(.int (cs).length.toInt32)]) (k' := 0) (n' := 0) (a := a) X (c_coder (a := a) (b := b) (cs := cs) G X.en P0) (w69 G) (w70 G) (nfM (z' := (⟨"java/lang/String", "length", "()I"⟩ : MethodName)) rfl (w67 G)) (w72 G) (w71 G) P0.exa (w73 G) (w20 G) (by decide) (by decide) (by decide) rfl (lenOf pd6 rfl) rfl rfl (Nat.le_of_eq rfl) d_jdk_42_m54_6 rfl (by decide) (by decide) (by decide) (by decide) (kp fun T X => ?_)
  refine W.ishr (pc' := 10) (w := cs.length.toInt32) X d_jdk_42_m54_9 (shr0 _) rfl ?_
  exact W.ireturn X d_jdk_42_m54_10 rfl (by decide) rfl (by decide) (by decide) ⟨rfl, rfl, rfl⟩
def c_lat1_rm : Room := { frames := 0, cells := 0, slots := 0, locals := 0 }
set_option maxRecDepth 65536 in
set_option maxHeartbeats 40000000 in
theorem c_lat1 {l : Launch} {Z : State} {a0 : Array Value} {zC : Int32} {fS : Value} {cA : Addr} {e0 : Addr} {e1 : Addr} {e2 : Addr} {h : Heap} {B : Addr → Prop} {a b : Addr} {cs : List Int32} (G : Gl Z a0 zC fS cA e0 e1 e2) (hE : En Z B h) (P0 : Str Z h a b cs) : Con l Z [] [] (⟨"java/lang/String", "isLatin1", "()Z"⟩ : MethodName) jdk_42_method_154_code 1 (some .boolean) c_lat1_rm B h #[(.ref a)] (fun vR hR BR => vR = some (.int (1 : Int32)) ∧ hR = h ∧ BR = B) := by
  have hz0 := hE.1.1
  refine Con.intro (ls := #[.val (.ref a)]) (plainFor_of_name pn4) G.2.1 hE (fun m => by first | rfl | (simp [entryFrame, mkF, argsToLocals, Value.category]; done) | rfl) ?_
  intro p e s m below meth c T hs X
  refine W.getS (pc' := 3) (host := "") X (Or.inl (w31 G)) Via.refl G.2.2.1 d_jdk_42_m154_0 rfl fun T X => ?_
  refine W.ifF (pc' := 6) X d_jdk_42_m154_3 (XT.i0_eq_f G.2.2.2.1) rfl ?_
  refine W.aloadN (pc' := 7) X d_jdk_42_m154_6 rfl rfl rfl ?_
  refine W.getF (pc' := 10) X (w43 G) Via.refl P0.cod d_jdk_42_m154_7 rfl fun T X => ?_
  refine W.ifF (pc' := 13) X d_jdk_42_m154_10 (by decide) rfl ?_
  refine W.iconst (pc' := 14) X (1 : Int32) d_jdk_42_m154_13 (by decide) rfl ?_
  refine W.goto (pc' := 18) X d_jdk_42_m154_14 (by decide) (by decide) ?_
  exact W.ireturn X d_jdk_42_m154_18 rfl (by decide) (by decide) (by decide) (by decide) ⟨rfl, rfl, rfl⟩
def c_chk_rm : Room := { frames := 0, cells := 0, slots := 0, locals := 0 }
set_option maxRecDepth 65536 in
set_option maxHeartbeats 40000000 in
theorem c_chk {l : Launch} {Z : State} {a0 : Array Value} {zC : Int32} {fS : Value} {cA : Addr} {e0 : Addr} {e1 : Addr} {e2 : Addr} {h : Heap} {B : Addr → Prop} {i n : Int32} {f : Value} (G : Gl Z a0 zC fS cA e0 e1 e2) (hE : En Z B h) (P0 : ¬ i < 0) (P1 : i < n) (P2 : f.isRef = true) : Con l Z [] [] (⟨"jdk/internal/util/Preconditions", "checkIndex", "(IILjava/util/function/BiFunction;)I"⟩ : MethodName) jdk_41_method_11_code 3 (some .int) c_chk_rm B h #[(.int i), (.int n), f] (fun vR hR BR => vR = some (.int i) ∧ hR = h ∧ BR = B) := by
  have hz0 := hE.1.1
  refine Con.intro (ls := #[.val (.int i), .val (.int n), .val f]) (plainFor_of_name pn7) G.2.1 hE (fun m => by cases f <;> first | rfl | (exact absurd P2 (by simp [Value.isRef])) | first | rfl | (simp [entryFrame, mkF, argsToLocals, Value.category]; done) | rfl) ?_
  intro p e s m below meth c T hs X
  refine W.iloadN (pc' := 1) X d_jdk_41_m11_0 rfl rfl ?_
  refine W.ifF (pc' := 4) X d_jdk_41_m11_1 (XT.i0_lt_f P0) rfl ?_
  refine W.iloadN (pc' := 5) X d_jdk_41_m11_4 rfl rfl ?_
  refine W.iloadN (pc' := 6) X d_jdk_41_m11_5 rfl rfl ?_
  refine W.icT (pc' := 16) X d_jdk_41_m11_6 (XT.ii_lt_t P1) (by decide) (by decide) ?_
  refine W.iloadN (pc' := 17) X d_jdk_41_m11_16 rfl rfl ?_
  exact W.ireturn X d_jdk_41_m11_17 rfl (by decide) rfl (by decide) (by decide) ⟨rfl, rfl, rfl⟩
def c_schk_rm : Room := { frames := 1, cells := 0, slots := 0, locals := 14 }
set_option maxRecDepth 65536 in
set_option maxHeartbeats 40000000 in
theorem c_schk {l : Launch} {Z : State} {a0 : Array Value} {zC : Int32} {fS : Value} {cA : Addr} {e0 : Addr} {e1 : Addr} {e2 : Addr} {h : Heap} {B : Addr → Prop} {i n : Int32} (G : Gl Z a0 zC fS cA e0 e1 e2) (hE : En Z B h) (P0 : ¬ i < 0) (P1 : i < n) : Con l Z [] [] (⟨"java/lang/String", "checkIndex", "(II)V"⟩ : MethodName) jdk_42_method_155_code 2 none c_schk_rm B h #[(.int i), (.int n)] (fun vR hR BR => vR = none ∧ hR = h ∧ BR = B) := by
  have hz0 := hE.1.1
  refine Con.intro (ls := #[.val (.int i), .val (.int n)]) (plainFor_of_name pn4) G.2.1 hE (fun m => by first | rfl | (simp [entryFrame, mkF, argsToLocals, Value.category]; done) | rfl) ?_
  intro p e s m below meth c T hs X
  refine W.iloadN (pc' := 1) X d_jdk_42_m155_0 rfl rfl ?_
  refine W.iloadN (pc' := 2) X d_jdk_42_m155_1 rfl rfl ?_
  refine W.getS (pc' := 5) (host := "") X (Or.inl (w93 G)) Via.refl G.2.2.2.2.1 d_jdk_42_m155_2 rfl fun T X => ?_
  refine W.callS (pc' := 8) (W := 0) (argsL := [(.int i), (.int n), fS]) (st := []) (k' := 0) (n' := 0) X (c_chk (i := i) (n := n) (f := fS) G X.en P0 P1 G.2.2.2.2.2.1) (w95 G) (w96 G) (w97 G) (w94 G) (by decide) (by decide) (by decide) rfl (lenOf pd8 rfl) rfl rfl (Nat.le_of_eq rfl) d_jdk_42_m155_5 rfl (by decide) (by decide) (by decide) (by decide) (kp fun T X => ?_)
  refine W.popV (pc' := 9) X d_jdk_42_m155_8 rfl rfl ?_
  exact W.vreturn X d_jdk_42_m155_9 rfl (by decide) (by decide) ⟨rfl, rfl, rfl⟩
def c_l1ch_rm : Room := { frames := 2, cells := 0, slots := 0, locals := 27 }
set_option maxRecDepth 65536 in
set_option maxHeartbeats 40000000 in
theorem c_l1ch {l : Launch} {Z : State} {a0 : Array Value} {zC : Int32} {fS : Value} {cA : Addr} {e0 : Addr} {e1 : Addr} {e2 : Addr} {h : Heap} {B : Addr → Prop} {b : Addr} {cs : List Int32} {i : Nat} (G : Gl Z a0 zC fS cA e0 e1 e2) (hE : En Z B h) (P0 : Ar Z h b .byte (by8 cs)) (P1 : Lat cs) (P2 : i < cs.length) : Con l Z [] [] (⟨"java/lang/StringLatin1", "charAt", "([BI)C"⟩ : MethodName) jdk_43_method_2_code 2 (some .char) c_l1ch_rm B h #[(.ref b), (.int i.toInt32)] (fun vR hR BR => vR = some (.int (cs.getD i 0)) ∧ hR = h ∧ BR = B) := by
  have hz0 := hE.1.1
  refine Con.intro (ls := #[.val (.ref b), .val (.int i.toInt32)]) (plainFor_of_name pn10) G.2.1 hE (fun m => by first | rfl | (simp [entryFrame, mkF, argsToLocals, Value.category]; done) | rfl) ?_
  intro p e s m below meth c T hs X
  have hL := P0.len_lt; rw [List.length_map] at hL
  refine W.iloadN (pc' := 1) X d_jdk_43_m2_0 rfl rfl ?_
  refine W.aloadN (pc' := 2) X d_jdk_43_m2_1 rfl rfl rfl ?_
  refine W.alen (pc' := 3) (z := cs.length.toInt32) X P0 (by simp) d_jdk_43_m2_2 rfl ?_
  refine W.callS (pc' := 6) (W := 0) (argsL := [(.int i.toInt32), (.int cs.length.toInt32)]) (st := []) (k' := 0) (n' := 0) X (c_schk (i := i.toInt32) (n := cs.length.toInt32) G X.en (len32 (by omega)).1 ((lt32 (by omega) hL).mpr P2)) (w90 G) (w91 G) (w92 G) (w20 G) (by decide) (by decide) (by decide) rfl (lenOf pd9 rfl) rfl rfl (Nat.le_of_eq rfl) d_jdk_43_m2_3 rfl (by decide) (by decide) (by decide) (by decide) (kpv fun T X => ?_)
  refine W.aloadN (pc' := 7) X d_jdk_43_m2_6 rfl rfl rfl ?_
  refine W.iloadN (pc' := 8) X d_jdk_43_m2_7 rfl rfl ?_
  refine W.baload (pc' := 9) (v := (.int (cs.getD i 0).toInt8.toInt32)) X P0 (len32 (by omega)).1 (by8_get P2 hL) d_jdk_43_m2_8 rfl ?_
  refine W.sipush (pc' := 12) X (255 : Int32) d_jdk_43_m2_9 (by decide) rfl ?_
  refine W.iand (pc' := 13) (w := (cs.getD i 0)) X d_jdk_43_m2_12 (lo8m (P1.at P2)) rfl ?_
  refine W.i2c (pc' := 14) (w := (cs.getD i 0)) X d_jdk_43_m2_13 (i2cx (to16 (P1.at P2))) rfl ?_
  exact W.ireturn X d_jdk_43_m2_14 rfl (by decide) (narc (to16 (P1.at P2))) (by decide) (by decide) ⟨rfl, rfl, rfl⟩
def c_ch_rm : Room := { frames := 3, cells := 0, slots := 0, locals := 40 }
set_option maxRecDepth 65536 in
set_option maxHeartbeats 40000000 in
theorem c_ch {l : Launch} {Z : State} {a0 : Array Value} {zC : Int32} {fS : Value} {cA : Addr} {e0 : Addr} {e1 : Addr} {e2 : Addr} {h : Heap} {B : Addr → Prop} {a b : Addr} {cs : List Int32} {i : Nat} (G : Gl Z a0 zC fS cA e0 e1 e2) (hE : En Z B h) (P0 : Str Z h a b cs) (P1 : i < cs.length) : Con l Z [] [] (⟨"java/lang/String", "charAt", "(I)C"⟩ : MethodName) jdk_42_method_56_code 2 (some .char) c_ch_rm B h #[(.ref a), (.int i.toInt32)] (fun vR hR BR => vR = some (.int (cs.getD i 0)) ∧ hR = h ∧ BR = B) := by
  have hz0 := hE.1.1
  refine Con.intro (ls := #[.val (.ref a), .val (.int i.toInt32)]) (plainFor_of_name pn4) G.2.1 hE (fun m => by first | rfl | (simp [entryFrame, mkF, argsToLocals, Value.category]; done) | rfl) ?_
  intro p e s m below meth c T hs X
  refine W.aloadN (pc' := 1) X d_jdk_42_m56_0 rfl rfl rfl ?_
  refine W.callV (pc' := 4) (W := 0) (argsL := []) (st := []) (k' := 0) (n' := 0) (a := a) X (c_lat1 (a := a) (b := b) (cs := cs) G X.en P0) (w81 G) (w82 G) (nfM (z' := (⟨"java/lang/String", "length", "()I"⟩ : MethodName)) rfl (w67 G)) (w84 G) (w83 G) P0.exa (w85 G) (w20 G) (by decide) (by decide) (by decide) rfl (lenOf pd11 rfl) rfl rfl (Nat.le_of_eq rfl) d_jdk_42_m56_1 rfl (by decide) (by decide) (by decide) (by decide) (kp fun T X => ?_)
  refine W.ifF (pc' := 7) X d_jdk_42_m56_4 (by decide) rfl ?_
  refine W.aloadN (pc' := 8) X d_jdk_42_m56_7 rfl rfl rfl ?_
  refine W.getF (pc' := 11) X (w45 G) Via.refl P0.val d_jdk_42_m56_8 rfl fun T X => ?_
  refine W.iloadN (pc' := 12) X d_jdk_42_m56_11 rfl rfl ?_
  refine W.callS (pc' := 15) (W := 0) (argsL := [(.ref b), (.int i.toInt32)]) (st := []) (k' := 0) (n' := 0) X (c_l1ch (b := b) (cs := cs) (i := i) G X.en P0.arr P0.lat P1) (w86 G) (w87 G) (w89 G) (w88 G) (by decide) (by decide) (by decide) rfl (lenOf pd12 rfl) rfl rfl (Nat.le_of_eq rfl) d_jdk_42_m56_12 rfl (by decide) (by decide) (by decide) (by decide) (kp fun T X => ?_)
  exact W.ireturn X d_jdk_42_m56_15 rfl (by decide) (narc (to16 (P0.lat.at P1))) (by decide) (by decide) ⟨rfl, rfl, rfl⟩
def c_l1eq_rm : Room := { frames := 0, cells := 0, slots := 0, locals := 0 }
set_option maxRecDepth 65536 in
set_option maxHeartbeats 40000000 in
theorem c_l1eq {l : Launch} {Z : State} {a0 : Array Value} {zC : Int32} {fS : Value} {cA : Addr} {e0 : Addr} {e1 : Addr} {e2 : Addr} {h : Heap} {B : Addr → Prop} {a b : Addr} {cs ds : List Int32} (G : Gl Z a0 zC fS cA e0 e1 e2) (hE : En Z B h) (P0 : Ar Z h a .byte (by8 cs)) (P1 : Ar Z h b .byte (by8 ds)) (P2 : Lat cs) (P3 : Lat ds) : Con l Z [] [] (⟨"java/lang/StringLatin1", "equals", "([B[B)Z"⟩ : MethodName) jdk_43_method_13_code 3 (some .boolean) c_l1eq_rm B h #[(.ref a), (.ref b)] (fun vR hR BR => vR = some (.int (if cs = ds then (1 : Int32) else 0)) ∧ hR = h ∧ BR = B) := by
  have hz0 := hE.1.1
  refine Con.intro (ls := #[.val (.ref a), .val (.ref b), .unset]) (plainFor_of_name pn10) G.2.1 hE (fun m => by first | rfl | (simp [entryFrame, mkF, argsToLocals, Value.category]; done) | rfl) ?_
  intro p e s m below meth c T hs X
  have hc := P0.len_lt; rw [List.length_map] at hc
  have hd := P1.len_lt; rw [List.length_map] at hd
  refine W.aloadN (pc' := 1) X d_jdk_43_m13_0 rfl rfl rfl ?_
  refine W.alen (pc' := 2) (z := cs.length.toInt32) X P0 (by simp) d_jdk_43_m13_1 rfl ?_
  refine W.aloadN (pc' := 3) X d_jdk_43_m13_2 rfl rfl rfl ?_
  refine W.alen (pc' := 4) (z := ds.length.toInt32) X P1 (by simp) d_jdk_43_m13_3 rfl ?_
  by_cases hl : cs.length.toInt32 = ds.length.toInt32
  · skip
    refine W.icF (pc' := 7) X d_jdk_43_m13_4 (XT.ii_ne_f hl) rfl ?_
    refine W.iconst (pc' := 8) X (0 : Int32) d_jdk_43_m13_7 (by decide) rfl ?_
    refine W.istoreN (pc' := 9) (ls' := #[.val (.ref a), .val (.ref b), .val (.int (0 : Int32))]) X d_jdk_43_m13_8 rfl rfl ?_
    have hl' : cs.length = ds.length := (eq32 hc hd).mp hl
    have loop : ∀ (r i : Nat) (T : State), i + r = cs.length → cs.take i = ds.take i → Wk l Z [] (⟨"java/lang/StringLatin1", "equals", "([B[B)Z"⟩ : MethodName) jdk_43_method_13_code 3 (some .boolean) c_l1eq_rm B p e s m #[(.ref a), (.ref b)] below meth c B T h 0 0 → Go l Z [] c_l1eq_rm B (fun vR hR BR => vR = some (.int (if cs = ds then (1 : Int32) else 0)) ∧ hR = h ∧ BR = B) p e s m below T 9 #[.val (.ref a), .val (.ref b), .val (.int i.toInt32)] [] := by
      intro r
      induction r with
      | zero =>
        intro i T hi ht X
        obtain rfl : i = cs.length := by omega
        have hcd : cs = ds := by rw [List.take_of_length_le (Nat.le_refl _), List.take_of_length_le (by omega)] at ht; exact ht
        refine W.iloadN (pc' := 10) X d_jdk_43_m13_9 rfl rfl ?_
        refine W.aloadN (pc' := 11) X d_jdk_43_m13_10 rfl rfl rfl ?_
        refine W.alen (pc' := 12) (z := cs.length.toInt32) X P0 (by simp) d_jdk_43_m13_11 rfl ?_
        refine W.icT (pc' := 32) X d_jdk_43_m13_12 (XT.ii_ge_t (fun q => by rw [Int32.lt_iff_toInt_lt] at q; omega)) (by decide) (by decide) ?_
        refine W.iconst (pc' := 33) X (1 : Int32) d_jdk_43_m13_32 (by decide) rfl ?_
        exact W.ireturn X d_jdk_43_m13_33 rfl (by decide) (by decide) (by decide) (by decide) ⟨(by rw [if_pos hcd]), rfl, rfl⟩
      | succ r ih =>
        intro i T hi ht X
        have hi' : i < cs.length := by omega
        have hj' : i < ds.length := by omega
        refine W.iloadN (pc' := 10) X d_jdk_43_m13_9 rfl rfl ?_
        refine W.aloadN (pc' := 11) X d_jdk_43_m13_10 rfl rfl rfl ?_
        refine W.alen (pc' := 12) (z := cs.length.toInt32) X P0 (by simp) d_jdk_43_m13_11 rfl ?_
        refine W.icF (pc' := 15) X d_jdk_43_m13_12 (XT.ii_ge_f ((lt32 (by omega) hc).mpr hi')) rfl ?_
        refine W.aloadN (pc' := 16) X d_jdk_43_m13_15 rfl rfl rfl ?_
        refine W.iloadN (pc' := 17) X d_jdk_43_m13_16 rfl rfl ?_
        refine W.baload (pc' := 18) (v := (.int (cs.getD i 0).toInt8.toInt32)) X P0 (len32 (by omega)).1 (by8_get hi' hc) d_jdk_43_m13_17 rfl ?_
        refine W.aloadN (pc' := 19) X d_jdk_43_m13_18 rfl rfl rfl ?_
        refine W.iloadN (pc' := 20) X d_jdk_43_m13_19 rfl rfl ?_
        refine W.baload (pc' := 21) (v := (.int (ds.getD i 0).toInt8.toInt32)) X P1 (len32 (by omega)).1 (by8_get hj' hd) d_jdk_43_m13_20 rfl ?_
        by_cases he : (cs.getD i 0).toInt8.toInt32 = (ds.getD i 0).toInt8.toInt32
        · skip
          refine W.icT (pc' := 26) X d_jdk_43_m13_21 (XT.ii_eq_t he) (by decide) (by decide) ?_
          refine W.iinc (pc' := 29) (ls' := #[.val (.ref a), .val (.ref b), .val (.int (i + 1).toInt32)]) X (1 : Int32) (w := (i + 1).toInt32) d_jdk_43_m13_26 (by decide) rfl (t32s i) rfl rfl ?_
          refine W.goto (pc' := 9) X d_jdk_43_m13_29 (by decide) (by decide) ?_
          exact ih (i + 1) T (by omega) (take_step ht hi' hj' (lo8_inj (P2.at hi') (P3.at hj') he)) X
        · skip
          refine W.icF (pc' := 24) X d_jdk_43_m13_21 (XT.ii_eq_f he) rfl ?_
          refine W.iconst (pc' := 25) X (0 : Int32) d_jdk_43_m13_24 (by decide) rfl ?_
          exact W.ireturn X d_jdk_43_m13_25 rfl (by decide) (by decide) (by decide) (by decide) ⟨(by rw [if_neg (fun q => he (by rw [q]))]), rfl, rfl⟩
    exact loop cs.length 0 T (by omega) rfl X
  · skip
    refine W.icT (pc' := 34) X d_jdk_43_m13_4 (XT.ii_ne_t hl) (by decide) (by decide) ?_
    refine W.iconst (pc' := 35) X (0 : Int32) d_jdk_43_m13_34 (by decide) rfl ?_
    exact W.ireturn X d_jdk_43_m13_35 rfl (by decide) (by decide) (by decide) (by decide) ⟨(by rw [if_neg (fun q => hl (by rw [q]))]), rfl, rfl⟩
def c_eq_rm : Room := { frames := 1, cells := 0, slots := 0, locals := 14 }
set_option maxRecDepth 65536 in
set_option maxHeartbeats 40000000 in
theorem c_eq {l : Launch} {Z : State} {a0 : Array Value} {zC : Int32} {fS : Value} {cA : Addr} {e0 : Addr} {e1 : Addr} {e2 : Addr} {h : Heap} {B : Addr → Prop} {a b a' b' : Addr} {cs ds : List Int32} (G : Gl Z a0 zC fS cA e0 e1 e2) (hE : En Z B h) (P0 : Str Z h a b cs) (P1 : Str Z h a' b' ds) (P2 : a ≠ a') : Con l Z [] [] (⟨"java/lang/String", "equals", "(Ljava/lang/Object;)Z"⟩ : MethodName) jdk_42_method_66_code 3 (some .boolean) c_eq_rm B h #[(.ref a), (.ref a')] (fun vR hR BR => vR = some (.int (if cs = ds then (1 : Int32) else 0)) ∧ hR = h ∧ BR = B) := by
  have hz0 := hE.1.1
  refine Con.intro (ls := #[.val (.ref a), .val (.ref a'), .unset]) (plainFor_of_name pn4) G.2.1 hE (fun m => by first | rfl | (simp [entryFrame, mkF, argsToLocals, Value.category]; done) | rfl) ?_
  intro p e s m below meth c T hs X
  refine W.aloadN (pc' := 1) X d_jdk_42_m66_0 rfl rfl rfl ?_
  refine W.aloadN (pc' := 2) X d_jdk_42_m66_1 rfl rfl rfl ?_
  refine W.acT (pc' := 7) X d_jdk_42_m66_2 rfl rfl (XT.aa_ne_t (fun q => P2 (Value.ref.inj q))) (by decide) (by decide) ?_
  refine W.aloadN (pc' := 8) X d_jdk_42_m66_7 rfl rfl rfl ?_
  refine W.instY (pc' := 11) X (w118 G) (Ins.self P1.exa) d_jdk_42_m66_8 rfl fun T X => ?_
  refine W.ifF (pc' := 14) X d_jdk_42_m66_11 (by decide) rfl ?_
  refine W.aloadN (pc' := 15) X d_jdk_42_m66_14 rfl rfl rfl ?_
  refine W.cast (pc' := 18) X (w118 G) (Ins.self P1.exa) d_jdk_42_m66_15 rfl fun T X => ?_
  refine W.astoreN (pc' := 19) (ls' := #[.val (.ref a), .val (.ref a'), .val (.ref a')]) X d_jdk_42_m66_18 rfl rfl rfl ?_
  refine W.getS (pc' := 22) (host := "") X (Or.inl (w31 G)) Via.refl G.2.2.1 d_jdk_42_m66_19 rfl fun T X => ?_
  refine W.ifF (pc' := 25) X d_jdk_42_m66_22 (XT.i0_eq_f G.2.2.2.1) rfl ?_
  refine W.aloadN (pc' := 26) X d_jdk_42_m66_25 rfl rfl rfl ?_
  refine W.getF (pc' := 29) X (w43 G) Via.refl P0.cod d_jdk_42_m66_26 rfl fun T X => ?_
  refine W.aloadN (pc' := 30) X d_jdk_42_m66_29 rfl rfl rfl ?_
  refine W.getF (pc' := 33) X (w43 G) Via.refl P1.cod d_jdk_42_m66_30 rfl fun T X => ?_
  refine W.icF (pc' := 36) X d_jdk_42_m66_33 (by decide) rfl ?_
  refine W.aloadN (pc' := 37) X d_jdk_42_m66_36 rfl rfl rfl ?_
  refine W.getF (pc' := 40) X (w45 G) Via.refl P0.val d_jdk_42_m66_37 rfl fun T X => ?_
  refine W.aloadN (pc' := 41) X d_jdk_42_m66_40 rfl rfl rfl ?_
  refine W.getF (pc' := 44) X (w45 G) Via.refl P1.val d_jdk_42_m66_41 rfl fun T X => ?_
  refine W.callS (pc' := 47) (W := 0) (argsL := [(.ref b), (.ref b')]) (st := []) (k' := 0) (n' := 0) X (c_l1eq (a := b) (b := b') (cs := cs) (ds := ds) G X.en P0.arr P1.arr P0.lat P1.lat) (w119 G) (w120 G) (w121 G) (w88 G) (by decide) (by decide) (by decide) rfl (lenOf pd13 rfl) rfl rfl (Nat.le_of_eq rfl) d_jdk_42_m66_44 rfl (by decide) (by decide) (by decide) (by decide) (kp fun T X => ?_)
  by_cases hq : (if cs = ds then (1 : Int32) else 0) = (0 : Int32)
  · skip
    refine W.ifT (pc' := 54) X d_jdk_42_m66_47 (XT.i0_eq_t hq) (by decide) (by decide) ?_
    refine W.iconst (pc' := 55) X (0 : Int32) d_jdk_42_m66_54 (by decide) rfl ?_
    exact W.ireturn X d_jdk_42_m66_55 rfl (by decide) (by decide) (by decide) (by decide) ⟨(by rw [if_neg (fun n => by rw [if_pos n] at hq; exact absurd hq (by decide))]), rfl, rfl⟩
  · skip
    refine W.ifF (pc' := 50) X d_jdk_42_m66_47 (XT.i0_eq_f hq) rfl ?_
    refine W.iconst (pc' := 51) X (1 : Int32) d_jdk_42_m66_50 (by decide) rfl ?_
    refine W.goto (pc' := 55) X d_jdk_42_m66_51 (by decide) (by decide) ?_
    exact W.ireturn X d_jdk_42_m66_55 rfl (by decide) (by decide) (by decide) (by decide) ⟨(by rw [if_pos (Classical.byContradiction fun n => hq (if_neg n))]), rfl, rfl⟩
def c_eqsame_rm : Room := { frames := 0, cells := 0, slots := 0, locals := 0 }
set_option maxRecDepth 65536 in
set_option maxHeartbeats 40000000 in
theorem c_eqsame {l : Launch} {Z : State} {a0 : Array Value} {zC : Int32} {fS : Value} {cA : Addr} {e0 : Addr} {e1 : Addr} {e2 : Addr} {h : Heap} {B : Addr → Prop} {a : Addr} (G : Gl Z a0 zC fS cA e0 e1 e2) (hE : En Z B h)  : Con l Z [] [] (⟨"java/lang/String", "equals", "(Ljava/lang/Object;)Z"⟩ : MethodName) jdk_42_method_66_code 3 (some .boolean) c_eqsame_rm B h #[(.ref a), (.ref a)] (fun vR hR BR => vR = some (.int (1 : Int32)) ∧ hR = h ∧ BR = B) := by
  have hz0 := hE.1.1
  refine Con.intro (ls := #[.val (.ref a), .val (.ref a), .unset]) (plainFor_of_name pn4) G.2.1 hE (fun m => by first | rfl | (simp [entryFrame, mkF, argsToLocals, Value.category]; done) | rfl) ?_
  intro p e s m below meth c T hs X
  refine W.aloadN (pc' := 1) X d_jdk_42_m66_0 rfl rfl rfl ?_
  refine W.aloadN (pc' := 2) X d_jdk_42_m66_1 rfl rfl rfl ?_
  refine W.acF (pc' := 5) X d_jdk_42_m66_2 rfl rfl (XT.aa_ne_f rfl) rfl ?_
  refine W.iconst (pc' := 6) X (1 : Int32) d_jdk_42_m66_5 (by decide) rfl ?_
  exact W.ireturn X d_jdk_42_m66_6 rfl (by decide) (by decide) (by decide) (by decide) ⟨rfl, rfl, rfl⟩
def c_reqnnS_rm : Room := { frames := 0, cells := 0, slots := 0, locals := 0 }
set_option maxRecDepth 65536 in
set_option maxHeartbeats 40000000 in
theorem c_reqnnS {l : Launch} {Z : State} {a0 : Array Value} {zC : Int32} {fS : Value} {cA : Addr} {e0 : Addr} {e1 : Addr} {e2 : Addr} {h : Heap} {B : Addr → Prop} {a b : Addr} (G : Gl Z a0 zC fS cA e0 e1 e2) (hE : En Z B h)  : Con l Z [] [] (⟨"java/util/Objects", "requireNonNull", "(Ljava/lang/Object;Ljava/lang/String;)Ljava/lang/Object;"⟩ : MethodName) jdk_31_method_11_code 2 (some (.object "java/lang/Object")) c_reqnnS_rm B h #[(.ref a), (.ref b)] (fun vR hR BR => vR = some (.ref a) ∧ hR = h ∧ BR = B) := by
  have hz0 := hE.1.1
  refine Con.intro (ls := #[.val (.ref a), .val (.ref b)]) (plainFor_of_name pn14) G.2.1 hE (fun m => by first | rfl | (simp [entryFrame, mkF, argsToLocals, Value.category]; done) | rfl) ?_
  intro p e s m below meth c T hs X
  refine W.aloadN (pc' := 1) X d_jdk_31_m11_0 rfl rfl rfl ?_
  refine W.nonnullT (pc' := 13) X d_jdk_31_m11_1 (by decide) (by decide) ?_
  refine W.aloadN (pc' := 14) X d_jdk_31_m11_13 rfl rfl rfl ?_
  exact W.areturn X d_jdk_31_m11_14 rfl rfl rfl rfl (by decide) (by decide) ⟨rfl, rfl, rfl⟩
def c_isSig_rm : Room := { frames := 4, cells := 0, slots := 0, locals := 53 }
set_option maxRecDepth 65536 in
set_option maxHeartbeats 40000000 in
theorem c_isSig {l : Launch} {Z : State} {a0 : Array Value} {zC : Int32} {fS : Value} {cA : Addr} {e0 : Addr} {e1 : Addr} {e2 : Addr} {h : Heap} {B : Addr → Prop} {q a b : Addr} {cs : List Int32} {dl : Int32} (G : Gl Z a0 zC fS cA e0 e1 e2) (hE : En Z B h) (P0 : Fld Z h q "com/example/campo_grande/campogrande/SignatureAlgorithm" "digestLength" "I" (.int dl)) (P1 : Str Z h a b cs) (P2 : cs.length.toInt32 = (2 : Int32) * dl) (P3 : ∀ c ∈ cs, HexC c) : Con l Z [] [] (⟨"com/example/campo_grande/campogrande/SignatureAlgorithm", "isSignature", "(Ljava/lang/String;)Z"⟩ : MethodName) prog_25_method_6_code 4 (some .boolean) c_isSig_rm B h #[(.ref q), (.ref a)] (fun vR hR BR => vR = some (.int (1 : Int32)) ∧ hR = h ∧ BR = B) := by
  have hz0 := hE.1.1
  refine Con.intro (ls := #[.val (.ref q), .val (.ref a), .unset, .unset]) (plainFor_of_name pn17) G.2.1 hE (fun m => by first | rfl | (simp [entryFrame, mkF, argsToLocals, Value.category]; done) | rfl) ?_
  intro p e s m below meth c T hs X
  have hL := P1.len_lt
  refine W.aloadN (pc' := 1) X d_prog_25_m6_0 rfl rfl rfl ?_
  refine W.callV (pc' := 4) (W := 0) (argsL := []) (st := []) (k' := 0) (n' := 0) (a := a) X (c_len (a := a) (b := b) (cs := cs) G X.en P1) (w64 G) (w65 G) (nfM (z' := (⟨"java/lang/String", "length", "()I"⟩ : MethodName)) rfl (w67 G)) (w67 G) (w66 G) P1.exa (w68 G) (w20 G) (by decide) (by decide) (by decide) rfl (lenOf pd15 rfl) rfl rfl (Nat.le_of_eq rfl) d_prog_25_m6_1 rfl (by decide) (by decide) (by decide) (by decide) (kp fun T X => ?_)
  refine W.iconst (pc' := 5) X (2 : Int32) d_prog_25_m6_4 (by decide) rfl ?_
  refine W.aloadN (pc' := 6) X d_prog_25_m6_5 rfl rfl rfl ?_
  refine W.getF (pc' := 9) X (w74 G) Via.refl P0 d_prog_25_m6_6 rfl fun T X => ?_
  refine W.imul (pc' := 10) (w := ((2 : Int32) * dl)) X d_prog_25_m6_9 rfl rfl ?_
  refine W.icT (pc' := 15) X d_prog_25_m6_10 (XT.ii_eq_t P2) (by decide) (by decide) ?_
  refine W.iconst (pc' := 16) X (0 : Int32) d_prog_25_m6_15 (by decide) rfl ?_
  refine W.istoreN (pc' := 17) (ls' := #[.val (.ref q), .val (.ref a), .val (.int (0 : Int32)), .unset]) X d_prog_25_m6_16 rfl rfl ?_
  have loop : ∀ (r i : Nat) (T : State) (o : Slot), i + r = cs.length → (o = .unset ∨ ∃ x, o = .val (.int x)) → Wk l Z [] (⟨"com/example/campo_grande/campogrande/SignatureAlgorithm", "isSignature", "(Ljava/lang/String;)Z"⟩ : MethodName) prog_25_method_6_code 4 (some .boolean) c_isSig_rm B p e s m #[(.ref q), (.ref a)] below meth c B T h 0 0 → Go l Z [] c_isSig_rm B (fun vR hR BR => vR = some (.int (1 : Int32)) ∧ hR = h ∧ BR = B) p e s m below T 17 #[.val (.ref q), .val (.ref a), .val (.int i.toInt32), o] [] := by
    intro r
    induction r with
    | zero =>
      intro i T o hi ho X
      obtain rfl : i = cs.length := by omega
      refine W.iloadN (pc' := 18) X d_prog_25_m6_17 rfl rfl ?_
      refine W.aloadN (pc' := 19) X d_prog_25_m6_18 rfl rfl rfl ?_
      refine W.callV (pc' := 22) (W := 1) (argsL := []) (st := [(.int cs.length.toInt32)]) (k' := 0) (n' := 0) (a := a) X (c_len (a := a) (b := b) (cs := cs) G X.en P1) (w64 G) (w65 G) (nfM (z' := (⟨"java/lang/String", "length", "()I"⟩ : MethodName)) rfl (w67 G)) (w67 G) (w66 G) P1.exa (w68 G) (w20 G) (by decide) (by decide) (by decide) rfl (lenOf pd15 rfl) rfl rfl (Nat.le_of_eq rfl) d_prog_25_m6_19 rfl (by decide) (by decide) (by decide) (by decide) (kp fun T X => ?_)
      refine W.icT (pc' := 63) X d_prog_25_m6_22 (XT.ii_ge_t (fun q => by rw [Int32.lt_iff_toInt_lt] at q; omega)) (by decide) (by decide) ?_
      refine W.iconst (pc' := 64) X (1 : Int32) d_prog_25_m6_63 (by decide) rfl ?_
      exact W.ireturn X d_prog_25_m6_64 rfl (by decide) (by decide) (by decide) (by decide) ⟨rfl, rfl, rfl⟩
    | succ r ih =>
      intro i T o hi ho X
      have hi' : i < cs.length := by omega
      have hx := hex_at P3 hi'
      have hlat := P1.lat.at hi'
      obtain ⟨cc, hcc⟩ : ∃ z, z = cs.getD i 0 := ⟨_, rfl⟩
      rcases ho with rfl | ⟨x0, rfl⟩
      all_goals
        refine W.iloadN (pc' := 18) X d_prog_25_m6_17 rfl rfl ?_
        refine W.aloadN (pc' := 19) X d_prog_25_m6_18 rfl rfl rfl ?_
        refine W.callV (pc' := 22) (W := 1) (argsL := []) (st := [(.int i.toInt32)]) (k' := 0) (n' := 0) (a := a) X (c_len (a := a) (b := b) (cs := cs) G X.en P1) (w64 G) (w65 G) (nfM (z' := (⟨"java/lang/String", "length", "()I"⟩ : MethodName)) rfl (w67 G)) (w67 G) (w66 G) P1.exa (w68 G) (w20 G) (by decide) (by decide) (by decide) rfl (lenOf pd15 rfl) rfl rfl (Nat.le_of_eq rfl) d_prog_25_m6_19 rfl (by decide) (by decide) (by decide) (by decide) (kp fun T X => ?_)
        refine W.icF (pc' := 25) X d_prog_25_m6_22 (XT.ii_ge_f ((lt32 (by omega) hL).mpr hi')) rfl ?_
        refine W.aloadN (pc' := 26) X d_prog_25_m6_25 rfl rfl rfl ?_
        refine W.iloadN (pc' := 27) X d_prog_25_m6_26 rfl rfl ?_
        refine W.callV (pc' := 30) (W := 0) (argsL := [(.int i.toInt32)]) (st := []) (k' := 0) (n' := 0) (a := a) X (c_ch (a := a) (b := b) (cs := cs) (i := i) G X.en P1 hi') (w76 G) (w77 G) (nfM (z' := (⟨"java/lang/String", "length", "()I"⟩ : MethodName)) rfl (w67 G)) (w79 G) (w78 G) P1.exa (w80 G) (w20 G) (by decide) (by decide) (by decide) rfl (lenOf pd16 rfl) rfl rfl (Nat.le_of_eq rfl) d_prog_25_m6_27 rfl (by decide) (by decide) (by decide) (by decide) (kp fun T X => ?_)
        refine W.istoreN (pc' := 31) (ls' := #[.val (.ref q), .val (.ref a), .val (.int i.toInt32), .val (.int (cs.getD i 0))]) X d_prog_25_m6_30 rfl rfl ?_
        refine W.iloadN (pc' := 32) X d_prog_25_m6_31 rfl rfl ?_
        refine W.bipush (pc' := 34) X (48 : Int32) d_prog_25_m6_32 (by decide) rfl ?_
        by_cases h48 : (cs.getD i 0) < (48 : Int32)
        · skip
          refine W.icT (pc' := 43) X d_prog_25_m6_34 (XT.ii_lt_t h48) (by decide) (by decide) ?_
          refine W.iloadN (pc' := 44) X d_prog_25_m6_43 rfl rfl ?_
          refine W.bipush (pc' := 46) X (97 : Int32) d_prog_25_m6_44 (by decide) rfl ?_
          refine W.icF (pc' := 49) X d_prog_25_m6_46 (XT.ii_lt_f (fun q => by rw [Int32.lt_iff_toInt_lt] at q h48; have e1 : (48 : Int32).toInt = 48 := rfl; have e2 : (97 : Int32).toInt = 97 := rfl; rcases hx with z | z <;> omega)) rfl ?_
          refine W.iloadN (pc' := 50) X d_prog_25_m6_49 rfl rfl ?_
          refine W.bipush (pc' := 52) X (102 : Int32) d_prog_25_m6_50 (by decide) rfl ?_
          refine W.icT (pc' := 57) X d_prog_25_m6_52 (XT.ii_le_t (fun q => by rw [Int32.lt_iff_toInt_lt] at q h48; have e1 : (48 : Int32).toInt = 48 := rfl; have e2 : (102 : Int32).toInt = 102 := rfl; rcases hx with z | z <;> omega)) (by decide) (by decide) ?_
          refine W.iinc (pc' := 60) (ls' := #[.val (.ref q), .val (.ref a), .val (.int (i + 1).toInt32), .val (.int (cs.getD i 0))]) X (1 : Int32) (w := (i + 1).toInt32) d_prog_25_m6_57 (by decide) rfl (t32s i) rfl rfl ?_
          refine W.goto (pc' := 17) X d_prog_25_m6_60 (by decide) (by decide) ?_
          exact ih (i + 1) T _ (by omega) (Or.inr ⟨_, rfl⟩) X
        · skip
          refine W.icF (pc' := 37) X d_prog_25_m6_34 (XT.ii_lt_f h48) rfl ?_
          refine W.iloadN (pc' := 38) X d_prog_25_m6_37 rfl rfl ?_
          refine W.bipush (pc' := 40) X (57 : Int32) d_prog_25_m6_38 (by decide) rfl ?_
          by_cases h57 : (57 : Int32) < (cs.getD i 0)
          · skip
            refine W.icF (pc' := 43) X d_prog_25_m6_40 (XT.ii_le_f h57) rfl ?_
            refine W.iloadN (pc' := 44) X d_prog_25_m6_43 rfl rfl ?_
            refine W.bipush (pc' := 46) X (97 : Int32) d_prog_25_m6_44 (by decide) rfl ?_
            refine W.icF (pc' := 49) X d_prog_25_m6_46 (XT.ii_lt_f (fun q => by rw [Int32.lt_iff_toInt_lt] at q h57; have e1 : (57 : Int32).toInt = 57 := rfl; have e2 : (97 : Int32).toInt = 97 := rfl; rcases hx with z | z <;> omega)) rfl ?_
            refine W.iloadN (pc' := 50) X d_prog_25_m6_49 rfl rfl ?_
            refine W.bipush (pc' := 52) X (102 : Int32) d_prog_25_m6_50 (by decide) rfl ?_
            refine W.icT (pc' := 57) X d_prog_25_m6_52 (XT.ii_le_t (fun q => by rw [Int32.lt_iff_toInt_lt] at q h57; have e1 : (57 : Int32).toInt = 57 := rfl; have e2 : (102 : Int32).toInt = 102 := rfl; rcases hx with z | z <;> omega)) (by decide) (by decide) ?_
            refine W.iinc (pc' := 60) (ls' := #[.val (.ref q), .val (.ref a), .val (.int (i + 1).toInt32), .val (.int (cs.getD i 0))]) X (1 : Int32) (w := (i + 1).toInt32) d_prog_25_m6_57 (by decide) rfl (t32s i) rfl rfl ?_
            refine W.goto (pc' := 17) X d_prog_25_m6_60 (by decide) (by decide) ?_
            exact ih (i + 1) T _ (by omega) (Or.inr ⟨_, rfl⟩) X
          · skip
            refine W.icT (pc' := 57) X d_prog_25_m6_40 (XT.ii_le_t h57) (by decide) (by decide) ?_
            refine W.iinc (pc' := 60) (ls' := #[.val (.ref q), .val (.ref a), .val (.int (i + 1).toInt32), .val (.int (cs.getD i 0))]) X (1 : Int32) (w := (i + 1).toInt32) d_prog_25_m6_57 (by decide) rfl (t32s i) rfl rfl ?_
            refine W.goto (pc' := 17) X d_prog_25_m6_60 (by decide) (by decide) ?_
            exact ih (i + 1) T _ (by omega) (Or.inr ⟨_, rfl⟩) X
  exact loop cs.length 0 T .unset (by omega) (Or.inl rfl) X
abbrev c_key_q (Z : State) (zC : Int32) (fS : Value) (cA : Addr) (e0 : Addr) (e1 : Addr) (e2 : Addr) (h : Heap) (B : Addr → Prop) (x q a b : Addr) (cs : List Int32) (dl vo ov : Int32) (v0 v1 v2 v3 : Value) (h' : Heap) (B' : Addr → Prop) : Prop := Keep h h' [x] ∧ Fld Z h' x "com/example/campo_grande/campogrande/ContentKey" "volume" "I" (.int vo) ∧ Fld Z h' x "com/example/campo_grande/campogrande/ContentKey" "algorithm" "Lcom/example/campo_grande/campogrande/SignatureAlgorithm;" (.ref q) ∧ Fld Z h' x "com/example/campo_grande/campogrande/ContentKey" "signature" "Ljava/lang/String;" (.ref a) ∧ Fld Z h' x "com/example/campo_grande/campogrande/ContentKey" "overflow" "I" (.int ov)
def c_key_rm : Room := { frames := 5, cells := 4, slots := 80, locals := 68 }
set_option maxRecDepth 65536 in
set_option maxHeartbeats 40000000 in
theorem c_key {l : Launch} {Z : State} {a0 : Array Value} {zC : Int32} {fS : Value} {cA : Addr} {e0 : Addr} {e1 : Addr} {e2 : Addr} {h : Heap} {B : Addr → Prop} {x q a b : Addr} {cs : List Int32} {dl vo ov : Int32} {v0 v1 v2 v3 : Value} (G : Gl Z a0 zC fS cA e0 e1 e2) (hE : En Z B h) (P0 : Exa Z h x "com/example/campo_grande/campogrande/ContentKey") (P1 : Fld Z h x "com/example/campo_grande/campogrande/ContentKey" "volume" "I" v0) (P2 : Fld Z h x "com/example/campo_grande/campogrande/ContentKey" "algorithm" "Lcom/example/campo_grande/campogrande/SignatureAlgorithm;" v1) (P3 : Fld Z h x "com/example/campo_grande/campogrande/ContentKey" "signature" "Ljava/lang/String;" v2) (P4 : Fld Z h x "com/example/campo_grande/campogrande/ContentKey" "overflow" "I" v3) (P5 : Exa Z h q "com/example/campo_grande/campogrande/SignatureAlgorithm") (P6 : Fld Z h q "com/example/campo_grande/campogrande/SignatureAlgorithm" "digestLength" "I" (.int dl)) (P7 : Str Z h a b cs) (P8 : cs.length.toInt32 = (2 : Int32) * dl) (P9 : ∀ c ∈ cs, HexC c) (P10 : ¬ vo < 0) (P11 : ¬ ov < 0) (P12 : Z.heap.size ≤ x) (P13 : ¬ B x) (P14 : x ≠ q) (P15 : x ≠ a) (P16 : x ≠ b) : Con l Z [] [] (⟨"com/example/campo_grande/campogrande/ContentKey", "<init>", "(ILcom/example/campo_grande/campogrande/SignatureAlgorithm;Ljava/lang/String;I)V"⟩ : MethodName) prog_13_method_1_code 5 none c_key_rm B h #[(.ref x), (.int vo), (.ref q), (.ref a), (.int ov)] (fun vR hR BR => vR = none ∧ c_key_q Z zC fS cA e0 e1 e2 h B x q a b cs dl vo ov v0 v1 v2 v3 hR BR) := by
  have hz0 := hE.1.1
  refine Con.intro (ls := #[.val (.ref x), .val (.int vo), .val (.ref q), .val (.ref a), .val (.int ov)]) (plainFor_of_name pn20) G.2.1 hE (fun m => by first | rfl | (simp [entryFrame, mkF, argsToLocals, Value.category]; done) | rfl) ?_
  intro p e s m below meth c T hs X
  refine W.aloadN (pc' := 1) X d_prog_13_m1_0 rfl rfl rfl ?_
  refine W.initO (pc' := 4) (W := 0) X (w50 G) (w29 G) (w30 G) d_prog_13_m1_1 rfl (by decide) (Nat.le_of_eq rfl) (by decide) rfl fun T X => ?_
  refine W.aloadN (pc' := 5) X d_prog_13_m1_4 rfl rfl rfl ?_
  refine W.ldcO (pc' := 7) (k' := 2) (n' := 40) (cap := 36) X G.2.1 (w51 G) (watoms G) d_prog_13_m1_5 (by decide) (by decide) rfl (by decide) (by decide) (by decide) (by decide) fun T h1 B5 a2 X K3 zb4 => ?_
  refine W.callS (pc' := 10) (W := 0) (argsL := [(.ref q), (.ref a2)]) (st := []) (k' := 2) (n' := 40) X (c_reqnnS (a := q) (b := a2) G X.en) (w54 G) (w55 G) (w57 G) (w56 G) (by decide) (by decide) (by decide) rfl (lenOf pd18 rfl) rfl rfl (Nat.le_of_eq rfl) d_prog_13_m1_7 rfl (by decide) (by decide) (by decide) (by decide) (kp fun T X => ?_)
  refine W.popV (pc' := 11) X d_prog_13_m1_10 rfl rfl ?_
  refine W.aloadN (pc' := 12) X d_prog_13_m1_11 rfl rfl rfl ?_
  refine W.ldcO (pc' := 14) (k' := 4) (n' := 80) (cap := 36) X G.2.1 (w58 G) (watoms G) d_prog_13_m1_12 (by decide) (by decide) rfl (by decide) (by decide) (by decide) (by decide) fun T h6 B10 a7 X K8 zb9 => ?_
  refine W.callS (pc' := 17) (W := 0) (argsL := [(.ref a), (.ref a7)]) (st := []) (k' := 4) (n' := 80) X (c_reqnnS (a := a) (b := a7) G X.en) (w54 G) (w55 G) (w57 G) (w56 G) (by decide) (by decide) (by decide) rfl (lenOf pd18 rfl) rfl rfl (Nat.le_of_eq rfl) d_prog_13_m1_14 rfl (by decide) (by decide) (by decide) (by decide) (kp fun T X => ?_)
  refine W.popV (pc' := 18) X d_prog_13_m1_17 rfl rfl ?_
  refine W.iloadN (pc' := 19) X d_prog_13_m1_18 rfl rfl ?_
  refine W.ifT (pc' := 28) X d_prog_13_m1_19 (XT.i0_ge_t P10) (by decide) (by decide) ?_
  refine W.aloadN (pc' := 29) X d_prog_13_m1_28 rfl rfl rfl ?_
  refine W.aloadN (pc' := 30) X d_prog_13_m1_29 rfl rfl rfl ?_
  have F11 := ((P5.keep K3).keep K8)
  have F12 := ((P6.keep K3 nin0).keep K8 nin0)
  have F13 := ((P7.keep K3 nin0 nin0).keep K8 nin0 nin0)
  refine W.callV (pc' := 33) (W := 0) (argsL := [(.ref a)]) (st := []) (k' := 4) (n' := 80) (a := q) X (c_isSig (q := q) (a := a) (b := b) (cs := cs) (dl := dl) G X.en F12 F13 P8 P9) (w59 G) (w60 G) (nfM (z' := (⟨"com/example/campo_grande/campogrande/SignatureAlgorithm", "isSignature", "(Ljava/lang/String;)Z"⟩ : MethodName)) rfl (w62 G)) (w62 G) (w61 G) F11 (w63 G) (w9 G) (by decide) (by decide) (by decide) rfl (lenOf pd19 rfl) rfl rfl (Nat.le_of_eq rfl) d_prog_13_m1_30 rfl (by decide) (by decide) (by decide) (by decide) (kp fun T X => ?_)
  refine W.ifT (pc' := 55) X d_prog_13_m1_33 (by decide) (by decide) (by decide) ?_
  refine W.iload (pc' := 57) X d_prog_13_m1_55 rfl rfl ?_
  refine W.ifT (pc' := 66) X d_prog_13_m1_57 (XT.i0_ge_t P11) (by decide) (by decide) ?_
  refine W.aloadN (pc' := 67) X d_prog_13_m1_66 rfl rfl rfl ?_
  refine W.iloadN (pc' := 68) X d_prog_13_m1_67 rfl rfl ?_
  have F14 := ((P1.keep K3 nin0).keep K8 nin0)
  have F15 := ((P0.keep K3).keep K8)
  have nb19 : ¬ B5 x := fun q => (zb4 _ q).elim P13 (fun r => absurd (Nat.lt_of_lt_of_le P0.lt (Nat.le_refl _)) (Nat.not_lt.mpr r))
  have nb20 : ¬ B10 x := fun q => (zb9 _ q).elim nb19 (fun r => absurd (Nat.lt_of_lt_of_le P0.lt K3.1) (Nat.not_lt.mpr r))
  refine W.putF (pc' := 71) X (w98 G) Via.refl F14 F15 (Or.inr ⟨(w99 G), rfl, rfl⟩) (w2 G) (ty := .int) (by decide) rfl rfl P12 nb20 d_prog_13_m1_68 rfl fun T h16 X W17 => ?_
  have F18 := F14.same W17
  refine W.aloadN (pc' := 72) X d_prog_13_m1_71 rfl rfl rfl ?_
  refine W.aloadN (pc' := 73) X d_prog_13_m1_72 rfl rfl rfl ?_
  have F21 := (((P2.keep K3 nin0).keep K8 nin0).other W17 (Or.inr (slot_ne (Or.inr (w101 G)) (Or.inr (w99 G)) (by decide) (t := (.object "com/example/campo_grande/campogrande/SignatureAlgorithm")) (t' := .int) (by decide) (by decide))))
  have F22 := (F15.wr W17)
  refine W.putF (pc' := 76) X (w100 G) Via.refl F21 F22 (Or.inr ⟨(w101 G), rfl, rfl⟩) (w2 G) (ty := (.object "com/example/campo_grande/campogrande/SignatureAlgorithm")) (by decide) rfl rfl P12 nb20 d_prog_13_m1_73 rfl fun T h23 X W24 => ?_
  have F25 := F21.same W24
  refine W.aloadN (pc' := 77) X d_prog_13_m1_76 rfl rfl rfl ?_
  refine W.aloadN (pc' := 78) X d_prog_13_m1_77 rfl rfl rfl ?_
  have F26 := ((((P3.keep K3 nin0).keep K8 nin0).other W17 (Or.inr (slot_ne (Or.inr (w103 G)) (Or.inr (w99 G)) (by decide) (t := (.object "java/lang/String")) (t' := .int) (by decide) (by decide)))).other W24 (Or.inr (slot_ne (Or.inr (w103 G)) (Or.inr (w101 G)) (by decide) (t := (.object "java/lang/String")) (t' := (.object "com/example/campo_grande/campogrande/SignatureAlgorithm")) (by decide) (by decide))))
  have F27 := (F22.wr W24)
  refine W.putF (pc' := 81) X (w102 G) Via.refl F26 F27 (Or.inr ⟨(w103 G), rfl, rfl⟩) (w2 G) (ty := (.object "java/lang/String")) (by decide) rfl rfl P12 nb20 d_prog_13_m1_78 rfl fun T h28 X W29 => ?_
  have F30 := F26.same W29
  refine W.aloadN (pc' := 82) X d_prog_13_m1_81 rfl rfl rfl ?_
  refine W.iload (pc' := 84) X d_prog_13_m1_82 rfl rfl ?_
  have F31 := (((((P4.keep K3 nin0).keep K8 nin0).other W17 (Or.inr (slot_ne (Or.inr (w105 G)) (Or.inr (w99 G)) (by decide) (t := .int) (t' := .int) (by decide) (by decide)))).other W24 (Or.inr (slot_ne (Or.inr (w105 G)) (Or.inr (w101 G)) (by decide) (t := .int) (t' := (.object "com/example/campo_grande/campogrande/SignatureAlgorithm")) (by decide) (by decide)))).other W29 (Or.inr (slot_ne (Or.inr (w105 G)) (Or.inr (w103 G)) (by decide) (t := .int) (t' := (.object "java/lang/String")) (by decide) (by decide))))
  have F32 := (F27.wr W29)
  refine W.putF (pc' := 87) X (w104 G) Via.refl F31 F32 (Or.inr ⟨(w105 G), rfl, rfl⟩) (w2 G) (ty := .int) (by decide) rfl rfl P12 nb20 d_prog_13_m1_84 rfl fun T h33 X W34 => ?_
  have F35 := F31.same W34
  have F36 := (((F18.other W24 (Or.inr (slot_ne (Or.inr (w99 G)) (Or.inr (w101 G)) (by decide) (t := .int) (t' := (.object "com/example/campo_grande/campogrande/SignatureAlgorithm")) (by decide) (by decide)))).other W29 (Or.inr (slot_ne (Or.inr (w99 G)) (Or.inr (w103 G)) (by decide) (t := .int) (t' := (.object "java/lang/String")) (by decide) (by decide)))).other W34 (Or.inr (slot_ne (Or.inr (w99 G)) (Or.inr (w105 G)) (by decide) (t := .int) (t' := .int) (by decide) (by decide))))
  have F37 := ((F25.other W29 (Or.inr (slot_ne (Or.inr (w101 G)) (Or.inr (w103 G)) (by decide) (t := (.object "com/example/campo_grande/campogrande/SignatureAlgorithm")) (t' := (.object "java/lang/String")) (by decide) (by decide)))).other W34 (Or.inr (slot_ne (Or.inr (w101 G)) (Or.inr (w105 G)) (by decide) (t := (.object "com/example/campo_grande/campogrande/SignatureAlgorithm")) (t' := .int) (by decide) (by decide))))
  have F38 := (F30.other W34 (Or.inr (slot_ne (Or.inr (w103 G)) (Or.inr (w105 G)) (by decide) (t := (.object "java/lang/String")) (t' := .int) (by decide) (by decide))))
  exact W.vreturn X d_prog_13_m1_87 rfl (by decide) (by decide) ⟨rfl, ⟨(Keep.wr (Keep.wr (Keep.wr (Keep.wr (Keep.trans (Keep.trans (Keep.refl h [x]) K3 all0) K8 all0) W17 (Or.inl (List.mem_of_getElem? (i := 0) rfl))) W24 (Or.inl (List.mem_of_getElem? (i := 0) rfl))) W29 (Or.inl (List.mem_of_getElem? (i := 0) rfl))) W34 (Or.inl (List.mem_of_getElem? (i := 0) rfl))), F36, F37, F38, F35⟩⟩
def c_num_rm : Room := { frames := 1, cells := 0, slots := 0, locals := 12 }
set_option maxRecDepth 65536 in
set_option maxHeartbeats 40000000 in
theorem c_num {l : Launch} {Z : State} {a0 : Array Value} {zC : Int32} {fS : Value} {cA : Addr} {e0 : Addr} {e1 : Addr} {e2 : Addr} {h : Heap} {B : Addr → Prop} {a : Addr} (G : Gl Z a0 zC fS cA e0 e1 e2) (hE : En Z B h)  : Con l Z [] [] (⟨"java/lang/Number", "<init>", "()V"⟩ : MethodName) jdk_18_method_1_code 1 none c_num_rm B h #[(.ref a)] (fun vR hR BR => vR = none ∧ hR = h ∧ BR = B) := by
  have hz0 := hE.1.1
  refine Con.intro (ls := #[.val (.ref a)]) (plainFor_of_name pn21) G.2.1 hE (fun m => by first | rfl | (simp [entryFrame, mkF, argsToLocals, Value.category]; done) | rfl) ?_
  intro p e s m below meth c T hs X
  refine W.aloadN (pc' := 1) X d_jdk_18_m1_0 rfl rfl rfl ?_
  refine W.initO (pc' := 4) (W := 0) X (w142 G) (w29 G) (w30 G) d_jdk_18_m1_1 rfl (by decide) (Nat.le_of_eq rfl) (by decide) rfl fun T X => ?_
  exact W.vreturn X d_jdk_18_m1_4 rfl (by decide) (by decide) ⟨rfl, rfl, rfl⟩
abbrev c_iinit_q (Z : State) (zC : Int32) (fS : Value) (cA : Addr) (e0 : Addr) (e1 : Addr) (e2 : Addr) (h : Heap) (B : Addr → Prop) (x : Addr) (n : Int32) (v0 : Value) (h' : Heap) : Prop := Keep h h' [x] ∧ Fld Z h' x "java/lang/Integer" "value" "I" (.int n)
def c_iinit_rm : Room := { frames := 2, cells := 0, slots := 0, locals := 24 }
set_option maxRecDepth 65536 in
set_option maxHeartbeats 40000000 in
theorem c_iinit {l : Launch} {Z : State} {a0 : Array Value} {zC : Int32} {fS : Value} {cA : Addr} {e0 : Addr} {e1 : Addr} {e2 : Addr} {h : Heap} {B : Addr → Prop} {x : Addr} {n : Int32} {v0 : Value} (G : Gl Z a0 zC fS cA e0 e1 e2) (hE : En Z B h) (P0 : Exa Z h x "java/lang/Integer") (P1 : Fld Z h x "java/lang/Integer" "value" "I" v0) (P2 : Z.heap.size ≤ x) (P3 : ¬ B x) : Con l Z [] [] (⟨"java/lang/Integer", "<init>", "(I)V"⟩ : MethodName) jdk_33_method_23_code 2 none c_iinit_rm B h #[(.ref x), (.int n)] (fun vR hR BR => vR = none ∧ BR = B ∧ c_iinit_q Z zC fS cA e0 e1 e2 h B x n v0 hR) := by
  have hz0 := hE.1.1
  refine Con.intro (ls := #[.val (.ref x), .val (.int n)]) (plainFor_of_name pn23) G.2.1 hE (fun m => by first | rfl | (simp [entryFrame, mkF, argsToLocals, Value.category]; done) | rfl) ?_
  intro p e s m below meth c T hs X
  refine W.aloadN (pc' := 1) X d_jdk_33_m23_0 rfl rfl rfl ?_
  refine W.callN (pc' := 4) (W := 0) (argsL := []) (st := []) (k' := 0) (n' := 0) (a := x) X (c_num (a := x) G X.en) rfl (w136 G) (w137 G) (w141 G) (w140 G) (by decide) (by decide) (by decide) rfl (lenOf pd22 rfl) rfl rfl (Nat.le_of_eq rfl) d_jdk_33_m23_1 rfl (by decide) (by decide) (by decide) (by decide) (kpv fun T X => ?_)
  refine W.aloadN (pc' := 5) X d_jdk_33_m23_4 rfl rfl rfl ?_
  refine W.iloadN (pc' := 6) X d_jdk_33_m23_5 rfl rfl ?_
  refine W.putF (pc' := 9) X (w143 G) Via.refl P1 P0 (Or.inr ⟨(w144 G), rfl, rfl⟩) (w131 G) (ty := .int) (by decide) rfl rfl P2 P3 d_jdk_33_m23_6 rfl fun T h1 X W2 => ?_
  have F3 := P1.same W2
  exact W.vreturn X d_jdk_33_m23_9 rfl (by decide) (by decide) ⟨rfl, rfl, ⟨(Keep.wr (Keep.refl h [x]) W2 (Or.inl (List.mem_of_getElem? (i := 0) rfl))), F3⟩⟩
abbrev c_ival_q (Z : State) (zC : Int32) (fS : Value) (cA : Addr) (e0 : Addr) (e1 : Addr) (e2 : Addr) (h : Heap) (B : Addr → Prop) (n : Int32) (xR : Value) (h' : Heap) : Prop := ∃ (t : Addr), xR = (.ref t) ∧ Keep h h' [] ∧ Exa Z h' t "java/lang/Integer"
def c_ival_rm : Room := { frames := 3, cells := 1, slots := 1, locals := 38 }
set_option maxRecDepth 65536 in
set_option maxHeartbeats 40000000 in
theorem c_ival {l : Launch} {Z : State} {a0 : Array Value} {zC : Int32} {fS : Value} {cA : Addr} {e0 : Addr} {e1 : Addr} {e2 : Addr} {h : Heap} {B : Addr → Prop} {n : Int32} (G : Gl Z a0 zC fS cA e0 e1 e2) (hE : En Z B h)  : Con l Z [] [] (⟨"java/lang/Integer", "valueOf", "(I)Ljava/lang/Integer;"⟩ : MethodName) jdk_33_method_22_code 1 (some (.object "java/lang/Integer")) c_ival_rm B h #[(.int n)] (fun vR hR BR => ∃ xR, vR = some xR ∧ BR = B ∧ c_ival_q Z zC fS cA e0 e1 e2 h B n xR hR) := by
  have hz0 := hE.1.1
  refine Con.intro (ls := #[.val (.int n)]) (plainFor_of_name pn23) G.2.1 hE (fun m => by first | rfl | (simp [entryFrame, mkF, argsToLocals, Value.category]; done) | rfl) ?_
  intro p e s m below meth c T hs X
  refine W.iloadN (pc' := 1) X d_jdk_33_m22_0 rfl rfl ?_
  refine W.bipush (pc' := 3) X (-128 : Int32) d_jdk_33_m22_1 (by decide) rfl ?_
  by_cases hlo : n < (-128 : Int32)
  · skip
    refine W.icT (pc' := 23) X d_jdk_33_m22_3 (XT.ii_lt_t hlo) (by decide) (by decide) ?_
    refine W.new (pc' := 26) (k' := 1) (n' := 1) X (w130 G) (w131 G) (w126 G) d_jdk_33_m22_23 rfl (by decide) (by decide) (by decide) (by decide) fun T h1 a2 X K3 g4 g5 nb6 E7 D8 => ?_
    have F9 : Fld Z h1 a2 "java/lang/Integer" "value" "I" (.int (0 : Int32)) := D8 (Or.inr (w144 G)) (ty := .int) (by decide)
    refine W.dup (pc' := 27) X d_jdk_33_m22_26 rfl rfl ?_
    refine W.iloadN (pc' := 28) X d_jdk_33_m22_27 rfl rfl ?_
    refine W.callN (pc' := 31) (W := 1) (argsL := [(.int n)]) (st := [(.ref a2)]) (k' := 1) (n' := 1) (a := a2) X (c_iinit (x := a2) (n := n) (v0 := (.int (0 : Int32))) G X.en E7 F9 g5 nb6) rfl (w132 G) (w133 G) (w135 G) (w126 G) (by decide) (by decide) (by decide) rfl (lenOf pd24 rfl) rfl rfl (Nat.le_of_eq rfl) d_jdk_33_m22_28 rfl (by decide) (by decide) (by decide) (by decide) (kv fun T h10 X z11 q12 => ?_)
    obtain ⟨K13, F14⟩ := q12
    have F15 := (E7.keep K13)
    exact W.areturn X d_jdk_33_m22_31 rfl rfl rfl rfl (by decide) (by decide) ⟨_, rfl, rfl, ⟨a2, rfl, (Keep.trans (Keep.trans (Keep.refl h []) K3 all0) K13 (allS (Or.inr (Nat.le_trans (Nat.le_refl _) g4)) all0)), F15⟩⟩
  · skip
    refine W.icF (pc' := 6) X d_jdk_33_m22_3 (XT.ii_lt_f hlo) rfl ?_
    refine W.iloadN (pc' := 7) X d_jdk_33_m22_6 rfl rfl ?_
    refine W.getS (pc' := 10) (host := "") X (Or.inl (w128 G)) Via.refl G.2.2.2.2.2.2.1 d_jdk_33_m22_7 rfl fun T X => ?_
    by_cases hhi : (127 : Int32) < n
    · skip
      refine W.icT (pc' := 23) X d_jdk_33_m22_10 (XT.ii_gt_t hhi) (by decide) (by decide) ?_
      refine W.new (pc' := 26) (k' := 1) (n' := 1) X (w130 G) (w131 G) (w126 G) d_jdk_33_m22_23 rfl (by decide) (by decide) (by decide) (by decide) fun T h16 a17 X K18 g19 g20 nb21 E22 D23 => ?_
      have F24 : Fld Z h16 a17 "java/lang/Integer" "value" "I" (.int (0 : Int32)) := D23 (Or.inr (w144 G)) (ty := .int) (by decide)
      refine W.dup (pc' := 27) X d_jdk_33_m22_26 rfl rfl ?_
      refine W.iloadN (pc' := 28) X d_jdk_33_m22_27 rfl rfl ?_
      refine W.callN (pc' := 31) (W := 1) (argsL := [(.int n)]) (st := [(.ref a17)]) (k' := 1) (n' := 1) (a := a17) X (c_iinit (x := a17) (n := n) (v0 := (.int (0 : Int32))) G X.en E22 F24 g20 nb21) rfl (w132 G) (w133 G) (w135 G) (w126 G) (by decide) (by decide) (by decide) rfl (lenOf pd24 rfl) rfl rfl (Nat.le_of_eq rfl) d_jdk_33_m22_28 rfl (by decide) (by decide) (by decide) (by decide) (kv fun T h25 X z26 q27 => ?_)
      obtain ⟨K28, F29⟩ := q27
      have F30 := (E22.keep K28)
      exact W.areturn X d_jdk_33_m22_31 rfl rfl rfl rfl (by decide) (by decide) ⟨_, rfl, rfl, ⟨a17, rfl, (Keep.trans (Keep.trans (Keep.refl h []) K18 all0) K28 (allS (Or.inr (Nat.le_trans (Nat.le_refl _) g19)) all0)), F30⟩⟩
    · skip
      refine W.icF (pc' := 13) X d_jdk_33_m22_10 (XT.ii_gt_f hhi) rfl ?_
      obtain ⟨iv, hiv, hiv'⟩ := ivof hlo hhi
      obtain ⟨vs, AC, hvl, hget⟩ := Cch.ld G.2.2.2.2.2.2.2.2.2.2.2.2.2.2.2.2.2.1
      obtain ⟨bx, hbx, EX⟩ := hget iv hiv'
      have AC' := Ar.ext X.old AC
      have EX' := Exa.ext X.old EX
      refine W.getS (pc' := 16) (host := "") X (Or.inl (w148 G)) Via.refl G.2.2.2.2.2.2.2.1 d_jdk_33_m22_13 rfl fun T X => ?_
      refine W.iloadN (pc' := 17) X d_jdk_33_m22_16 rfl rfl ?_
      refine W.sipush (pc' := 20) X (128 : Int32) d_jdk_33_m22_17 (by decide) rfl ?_
      refine W.iadd (pc' := 21) (w := iv.toInt32) X d_jdk_33_m22_20 hiv rfl ?_
      refine W.aaload (pc' := 22) (v := (.ref bx)) X AC' rfl (len32 (by omega)).1 (by rw [(len32 (by omega)).2.1]; exact hbx) d_jdk_33_m22_21 rfl ?_
      exact W.areturn X d_jdk_33_m22_22 rfl rfl rfl rfl (by decide) (by decide) ⟨_, rfl, rfl, ⟨bx, rfl, (Keep.refl h []), EX'⟩⟩
def c_hex_rm : Room := { frames := 0, cells := 0, slots := 0, locals := 0 }
set_option maxRecDepth 65536 in
set_option maxHeartbeats 40000000 in
theorem c_hex {l : Launch} {Z : State} {a0 : Array Value} {zC : Int32} {fS : Value} {cA : Addr} {e0 : Addr} {e1 : Addr} {e2 : Addr} {h : Heap} {B : Addr → Prop} {n : Int32} (G : Gl Z a0 zC fS cA e0 e1 e2) (hE : En Z B h)  : Con l Z [] [] (⟨"com/example/campo_grande/campogrande/ContentKeyEqualsPinLaw", "hex", "(I)C"⟩ : MethodName) method_3_code 2 (some .char) c_hex_rm B h #[(.int n)] (fun vR hR BR => vR = some (.int (hexd n)) ∧ hR = h ∧ BR = B) := by
  have hz0 := hE.1.1
  refine Con.intro (ls := #[.val (.int n), .unset]) (plainFor_of_name pn25) G.2.1 hE (fun m => by first | rfl | (simp [entryFrame, mkF, argsToLocals, Value.category]; done) | rfl) ?_
  intro p e s m below meth c T hs X
  refine W.iloadN (pc' := 1) X d_m3_0 rfl rfl ?_
  refine W.bipush (pc' := 3) X (15 : Int32) d_m3_1 (by decide) rfl ?_
  refine W.iand (pc' := 4) (w := (n &&& (15 : Int32))) X d_m3_3 rfl rfl ?_
  refine W.istoreN (pc' := 5) (ls' := #[.val (.int n), .val (.int (n &&& (15 : Int32)))]) X d_m3_4 rfl rfl ?_
  refine W.iloadN (pc' := 6) X d_m3_5 rfl rfl ?_
  refine W.bipush (pc' := 8) X (10 : Int32) d_m3_6 (by decide) rfl ?_
  by_cases hq10 : (n &&& (15 : Int32)) < (10 : Int32)
  · skip
    refine W.icF (pc' := 11) X d_m3_8 (XT.ii_ge_f hq10) rfl ?_
    refine W.bipush (pc' := 13) X (48 : Int32) d_m3_11 (by decide) rfl ?_
    refine W.iloadN (pc' := 14) X d_m3_13 rfl rfl ?_
    refine W.iadd (pc' := 15) (w := ((48 : Int32) + (n &&& (15 : Int32)))) X d_m3_14 rfl rfl ?_
    refine W.goto (pc' := 25) X d_m3_15 (by decide) (by decide) ?_
    refine W.i2c (pc' := 26) (w := (hexd n)) X d_m3_25 (by have e : hexd n = (48 : Int32) + (n &&& (15 : Int32)) := (by unfold hexd hxd; rw [if_pos hq10]); rw [← e]; exact hex_nar (hexd_hex n)) rfl ?_
    exact W.ireturn X d_m3_26 rfl (by decide) (narc (to16 (hex_rng (hexd_hex n)))) (by decide) (by decide) ⟨rfl, rfl, rfl⟩
  · skip
    refine W.icT (pc' := 18) X d_m3_8 (XT.ii_ge_t hq10) (by decide) (by decide) ?_
    refine W.bipush (pc' := 20) X (97 : Int32) d_m3_18 (by decide) rfl ?_
    refine W.iloadN (pc' := 21) X d_m3_20 rfl rfl ?_
    refine W.iadd (pc' := 22) (w := ((97 : Int32) + (n &&& (15 : Int32)))) X d_m3_21 rfl rfl ?_
    refine W.bipush (pc' := 24) X (10 : Int32) d_m3_22 (by decide) rfl ?_
    refine W.isub (pc' := 25) (w := (((97 : Int32) + (n &&& (15 : Int32))) - (10 : Int32))) X d_m3_24 rfl rfl ?_
    refine W.i2c (pc' := 26) (w := (hexd n)) X d_m3_25 (by have e : hexd n = ((97 : Int32) + (n &&& (15 : Int32))) - (10 : Int32) := (by unfold hexd hxd; rw [if_neg hq10]); rw [← e]; exact hex_nar (hexd_hex n)) rfl ?_
    exact W.ireturn X d_m3_26 rfl (by decide) (narc (to16 (hex_rng (hexd_hex n)))) (by decide) (by decide) ⟨rfl, rfl, rfl⟩
def c_alg_rm : Room := { frames := 0, cells := 0, slots := 0, locals := 0 }
set_option maxRecDepth 65536 in
set_option maxHeartbeats 40000000 in
theorem c_alg {l : Launch} {Z : State} {a0 : Array Value} {zC : Int32} {fS : Value} {cA : Addr} {e0 : Addr} {e1 : Addr} {e2 : Addr} {h : Heap} {B : Addr → Prop} {i : Int32} (G : Gl Z a0 zC fS cA e0 e1 e2) (hE : En Z B h)  : Con l Z [] [] (⟨"com/example/campo_grande/campogrande/ContentKeyEqualsPinLaw", "alg", "(I)Lcom/example/campo_grande/campogrande/SignatureAlgorithm;"⟩ : MethodName) method_2_code 1 (some (.object "com/example/campo_grande/campogrande/SignatureAlgorithm")) c_alg_rm B h #[(.int i)] (fun vR hR BR => vR = some (.ref (eOf e0 e1 e2 i)) ∧ hR = h ∧ BR = B) := by
  have hz0 := hE.1.1
  refine Con.intro (ls := #[.val (.int i)]) (plainFor_of_name pn25) G.2.1 hE (fun m => by first | rfl | (simp [entryFrame, mkF, argsToLocals, Value.category]; done) | rfl) ?_
  intro p e s m below meth c T hs X
  refine W.iloadN (pc' := 1) X d_m2_0 rfl rfl ?_
  by_cases hi0 : i = (0 : Int32)
  · skip
    refine W.ifF (pc' := 4) X d_m2_1 (XT.i0_ne_f hi0) rfl ?_
    refine W.getS (pc' := 7) (host := "") X (Or.inl (w8 G)) Via.refl G.2.2.2.2.2.2.2.2.1 d_m2_4 rfl fun T X => ?_
    exact W.areturn X d_m2_7 rfl rfl rfl rfl (by decide) (by decide) ⟨(by rw [eOf, if_pos hi0]), rfl, rfl⟩
  · skip
    refine W.ifT (pc' := 8) X d_m2_1 (XT.i0_ne_t hi0) (by decide) (by decide) ?_
    refine W.iloadN (pc' := 9) X d_m2_8 rfl rfl ?_
    refine W.iconst (pc' := 10) X (1 : Int32) d_m2_9 (by decide) rfl ?_
    by_cases hi1 : i = (1 : Int32)
    · skip
      refine W.icF (pc' := 13) X d_m2_10 (XT.ii_ne_f hi1) rfl ?_
      refine W.getS (pc' := 16) (host := "") X (Or.inl (w122 G)) Via.refl G.2.2.2.2.2.2.2.2.2.1 d_m2_13 rfl fun T X => ?_
      exact W.areturn X d_m2_16 rfl rfl rfl rfl (by decide) (by decide) ⟨(by rw [eOf, if_neg hi0, if_pos hi1]), rfl, rfl⟩
    · skip
      refine W.icT (pc' := 17) X d_m2_10 (XT.ii_ne_t hi1) (by decide) (by decide) ?_
      refine W.getS (pc' := 20) (host := "") X (Or.inl (w149 G)) Via.refl G.2.2.2.2.2.2.2.2.2.2.1 d_m2_17 rfl fun T X => ?_
      exact W.areturn X d_m2_20 rfl rfl rfl rfl (by decide) (by decide) ⟨(by rw [eOf, if_neg hi0, if_neg hi1]), rfl, rfl⟩
abbrev c_sig_q (Z : State) (zC : Int32) (fS : Value) (cA : Addr) (e0 : Addr) (e1 : Addr) (e2 : Addr) (h : Heap) (B : Addr → Prop) (i b : Int32) (xR : Value) (h' : Heap) : Prop := ∃ (u : Addr) (t : Addr), xR = (.ref u) ∧ Keep h h' [] ∧ h.size ≤ u ∧ h.size ≤ t ∧ Str Z h' u t (sg i b)
def c_sig_rm : Room := { frames := 4, cells := 3, slots := 132, locals := 66 }
set_option maxRecDepth 65536 in
set_option maxHeartbeats 40000000 in
theorem c_sig {l : Launch} {Z : State} {a0 : Array Value} {zC : Int32} {fS : Value} {cA : Addr} {e0 : Addr} {e1 : Addr} {e2 : Addr} {h : Heap} {B : Addr → Prop} {i b : Int32} (G : Gl Z a0 zC fS cA e0 e1 e2) (hE : En Z B h)  : Con l Z [] [] (⟨"com/example/campo_grande/campogrande/ContentKeyEqualsPinLaw", "sig", "(II)Ljava/lang/String;"⟩ : MethodName) method_4_code 4 (some (.object "java/lang/String")) c_sig_rm B h #[(.int i), (.int b)] (fun vR hR BR => ∃ xR, vR = some xR ∧ BR = B ∧ c_sig_q Z zC fS cA e0 e1 e2 h B i b xR hR) := by
  have hz0 := hE.1.1
  refine Con.intro (ls := #[.val (.int i), .val (.int b), .unset, .unset]) (plainFor_of_name pn25) G.2.1 hE (fun m => by first | rfl | (simp [entryFrame, mkF, argsToLocals, Value.category]; done) | rfl) ?_
  intro p e s m below meth c T hs X
  refine W.iloadN (pc' := 1) X d_m4_0 rfl rfl ?_
  by_cases hi0 : i = (0 : Int32)
  · skip
    refine W.ifF (pc' := 4) X d_m4_1 (XT.i0_ne_f hi0) rfl ?_
    refine W.bipush (pc' := 6) X (64 : Int32) d_m4_4 (by decide) rfl ?_
    refine W.newA (aty := .char) (pc' := 8) (k' := 1) (n' := 64) (cap := 64) X (w14 G) d_m4_6 (by decide) (by decide) (by decide) rfl (by decide) (by decide) (by decide) (by decide) fun T h1 a2 X K3 g4 g5 nb6 A7 => ?_
    have A7 : Ar Z h1 a2 .char [(.int (0 : Int32)), (.int (0 : Int32)), (.int (0 : Int32)), (.int (0 : Int32)), (.int (0 : Int32)), (.int (0 : Int32)), (.int (0 : Int32)), (.int (0 : Int32)), (.int (0 : Int32)), (.int (0 : Int32)), (.int (0 : Int32)), (.int (0 : Int32)), (.int (0 : Int32)), (.int (0 : Int32)), (.int (0 : Int32)), (.int (0 : Int32)), (.int (0 : Int32)), (.int (0 : Int32)), (.int (0 : Int32)), (.int (0 : Int32)), (.int (0 : Int32)), (.int (0 : Int32)), (.int (0 : Int32)), (.int (0 : Int32)), (.int (0 : Int32)), (.int (0 : Int32)), (.int (0 : Int32)), (.int (0 : Int32)), (.int (0 : Int32)), (.int (0 : Int32)), (.int (0 : Int32)), (.int (0 : Int32)), (.int (0 : Int32)), (.int (0 : Int32)), (.int (0 : Int32)), (.int (0 : Int32)), (.int (0 : Int32)), (.int (0 : Int32)), (.int (0 : Int32)), (.int (0 : Int32)), (.int (0 : Int32)), (.int (0 : Int32)), (.int (0 : Int32)), (.int (0 : Int32)), (.int (0 : Int32)), (.int (0 : Int32)), (.int (0 : Int32)), (.int (0 : Int32)), (.int (0 : Int32)), (.int (0 : Int32)), (.int (0 : Int32)), (.int (0 : Int32)), (.int (0 : Int32)), (.int (0 : Int32)), (.int (0 : Int32)), (.int (0 : Int32)), (.int (0 : Int32)), (.int (0 : Int32)), (.int (0 : Int32)), (.int (0 : Int32)), (.int (0 : Int32)), (.int (0 : Int32)), (.int (0 : Int32)), (.int (0 : Int32))] := A7
    refine W.dup (pc' := 9) X d_m4_8 rfl rfl ?_
    refine W.iconst (pc' := 10) X (0 : Int32) d_m4_9 (by decide) rfl ?_
    refine W.bipush (pc' := 12) X (48 : Int32) d_m4_10 (by decide) rfl ?_
    refine W.castore (pc' := 13) (i := 0) X A7 (by decide) rfl (ltb rfl) (show nar .char (48 : Int32) = (48 : Int32) from by decide) g5 nb6 d_m4_12 rfl fun T h8 X K9 A10 => ?_
    have A10 : Ar Z h8 a2 .char [(.int (48 : Int32)), (.int (0 : Int32)), (.int (0 : Int32)), (.int (0 : Int32)), (.int (0 : Int32)), (.int (0 : Int32)), (.int (0 : Int32)), (.int (0 : Int32)), (.int (0 : Int32)), (.int (0 : Int32)), (.int (0 : Int32)), (.int (0 : Int32)), (.int (0 : Int32)), (.int (0 : Int32)), (.int (0 : Int32)), (.int (0 : Int32)), (.int (0 : Int32)), (.int (0 : Int32)), (.int (0 : Int32)), (.int (0 : Int32)), (.int (0 : Int32)), (.int (0 : Int32)), (.int (0 : Int32)), (.int (0 : Int32)), (.int (0 : Int32)), (.int (0 : Int32)), (.int (0 : Int32)), (.int (0 : Int32)), (.int (0 : Int32)), (.int (0 : Int32)), (.int (0 : Int32)), (.int (0 : Int32)), (.int (0 : Int32)), (.int (0 : Int32)), (.int (0 : Int32)), (.int (0 : Int32)), (.int (0 : Int32)), (.int (0 : Int32)), (.int (0 : Int32)), (.int (0 : Int32)), (.int (0 : Int32)), (.int (0 : Int32)), (.int (0 : Int32)), (.int (0 : Int32)), (.int (0 : Int32)), (.int (0 : Int32)), (.int (0 : Int32)), (.int (0 : Int32)), (.int (0 : Int32)), (.int (0 : Int32)), (.int (0 : Int32)), (.int (0 : Int32)), (.int (0 : Int32)), (.int (0 : Int32)), (.int (0 : Int32)), (.int (0 : Int32)), (.int (0 : Int32)), (.int (0 : Int32)), (.int (0 : Int32)), (.int (0 : Int32)), (.int (0 : Int32)), (.int (0 : Int32)), (.int (0 : Int32)), (.int (0 : Int32))] := A10
    refine W.dup (pc' := 14) X d_m4_13 rfl rfl ?_
    refine W.iconst (pc' := 15) X (1 : Int32) d_m4_14 (by decide) rfl ?_
    refine W.bipush (pc' := 17) X (48 : Int32) d_m4_15 (by decide) rfl ?_
    refine W.castore (pc' := 18) (i := 1) X A10 (by decide) rfl (ltb rfl) (show nar .char (48 : Int32) = (48 : Int32) from by decide) g5 nb6 d_m4_17 rfl fun T h11 X K12 A13 => ?_
    have A13 : Ar Z h11 a2 .char [(.int (48 : Int32)), (.int (48 : Int32)), (.int (0 : Int32)), (.int (0 : Int32)), (.int (0 : Int32)), (.int (0 : Int32)), (.int (0 : Int32)), (.int (0 : Int32)), (.int (0 : Int32)), (.int (0 : Int32)), (.int (0 : Int32)), (.int (0 : Int32)), (.int (0 : Int32)), (.int (0 : Int32)), (.int (0 : Int32)), (.int (0 : Int32)), (.int (0 : Int32)), (.int (0 : Int32)), (.int (0 : Int32)), (.int (0 : Int32)), (.int (0 : Int32)), (.int (0 : Int32)), (.int (0 : Int32)), (.int (0 : Int32)), (.int (0 : Int32)), (.int (0 : Int32)), (.int (0 : Int32)), (.int (0 : Int32)), (.int (0 : Int32)), (.int (0 : Int32)), (.int (0 : Int32)), (.int (0 : Int32)), (.int (0 : Int32)), (.int (0 : Int32)), (.int (0 : Int32)), (.int (0 : Int32)), (.int (0 : Int32)), (.int (0 : Int32)), (.int (0 : Int32)), (.int (0 : Int32)), (.int (0 : Int32)), (.int (0 : Int32)), (.int (0 : Int32)), (.int (0 : Int32)), (.int (0 : Int32)), (.int (0 : Int32)), (.int (0 : Int32)), (.int (0 : Int32)), (.int (0 : Int32)), (.int (0 : Int32)), (.int (0 : Int32)), (.int (0 : Int32)), (.int (0 : Int32)), (.int (0 : Int32)), (.int (0 : Int32)), (.int (0 : Int32)), (.int (0 : Int32)), (.int (0 : Int32)), (.int (0 : Int32)), (.int (0 : Int32)), (.int (0 : Int32)), (.int (0 : Int32)), (.int (0 : Int32)), (.int (0 : Int32))] := A13
    refine W.dup (pc' := 19) X d_m4_18 rfl rfl ?_
    refine W.iconst (pc' := 20) X (2 : Int32) d_m4_19 (by decide) rfl ?_
    refine W.bipush (pc' := 22) X (48 : Int32) d_m4_20 (by decide) rfl ?_
    refine W.castore (pc' := 23) (i := 2) X A13 (by decide) rfl (ltb rfl) (show nar .char (48 : Int32) = (48 : Int32) from by decide) g5 nb6 d_m4_22 rfl fun T h14 X K15 A16 => ?_
    have A16 : Ar Z h14 a2 .char [(.int (48 : Int32)), (.int (48 : Int32)), (.int (48 : Int32)), (.int (0 : Int32)), (.int (0 : Int32)), (.int (0 : Int32)), (.int (0 : Int32)), (.int (0 : Int32)), (.int (0 : Int32)), (.int (0 : Int32)), (.int (0 : Int32)), (.int (0 : Int32)), (.int (0 : Int32)), (.int (0 : Int32)), (.int (0 : Int32)), (.int (0 : Int32)), (.int (0 : Int32)), (.int (0 : Int32)), (.int (0 : Int32)), (.int (0 : Int32)), (.int (0 : Int32)), (.int (0 : Int32)), (.int (0 : Int32)), (.int (0 : Int32)), (.int (0 : Int32)), (.int (0 : Int32)), (.int (0 : Int32)), (.int (0 : Int32)), (.int (0 : Int32)), (.int (0 : Int32)), (.int (0 : Int32)), (.int (0 : Int32)), (.int (0 : Int32)), (.int (0 : Int32)), (.int (0 : Int32)), (.int (0 : Int32)), (.int (0 : Int32)), (.int (0 : Int32)), (.int (0 : Int32)), (.int (0 : Int32)), (.int (0 : Int32)), (.int (0 : Int32)), (.int (0 : Int32)), (.int (0 : Int32)), (.int (0 : Int32)), (.int (0 : Int32)), (.int (0 : Int32)), (.int (0 : Int32)), (.int (0 : Int32)), (.int (0 : Int32)), (.int (0 : Int32)), (.int (0 : Int32)), (.int (0 : Int32)), (.int (0 : Int32)), (.int (0 : Int32)), (.int (0 : Int32)), (.int (0 : Int32)), (.int (0 : Int32)), (.int (0 : Int32)), (.int (0 : Int32)), (.int (0 : Int32)), (.int (0 : Int32)), (.int (0 : Int32)), (.int (0 : Int32))] := A16
    refine W.dup (pc' := 24) X d_m4_23 rfl rfl ?_
    refine W.iconst (pc' := 25) X (3 : Int32) d_m4_24 (by decide) rfl ?_
    refine W.bipush (pc' := 27) X (48 : Int32) d_m4_25 (by decide) rfl ?_
    refine W.castore (pc' := 28) (i := 3) X A16 (by decide) rfl (ltb rfl) (show nar .char (48 : Int32) = (48 : Int32) from by decide) g5 nb6 d_m4_27 rfl fun T h17 X K18 A19 => ?_
    have A19 : Ar Z h17 a2 .char [(.int (48 : Int32)), (.int (48 : Int32)), (.int (48 : Int32)), (.int (48 : Int32)), (.int (0 : Int32)), (.int (0 : Int32)), (.int (0 : Int32)), (.int (0 : Int32)), (.int (0 : Int32)), (.int (0 : Int32)), (.int (0 : Int32)), (.int (0 : Int32)), (.int (0 : Int32)), (.int (0 : Int32)), (.int (0 : Int32)), (.int (0 : Int32)), (.int (0 : Int32)), (.int (0 : Int32)), (.int (0 : Int32)), (.int (0 : Int32)), (.int (0 : Int32)), (.int (0 : Int32)), (.int (0 : Int32)), (.int (0 : Int32)), (.int (0 : Int32)), (.int (0 : Int32)), (.int (0 : Int32)), (.int (0 : Int32)), (.int (0 : Int32)), (.int (0 : Int32)), (.int (0 : Int32)), (.int (0 : Int32)), (.int (0 : Int32)), (.int (0 : Int32)), (.int (0 : Int32)), (.int (0 : Int32)), (.int (0 : Int32)), (.int (0 : Int32)), (.int (0 : Int32)), (.int (0 : Int32)), (.int (0 : Int32)), (.int (0 : Int32)), (.int (0 : Int32)), (.int (0 : Int32)), (.int (0 : Int32)), (.int (0 : Int32)), (.int (0 : Int32)), (.int (0 : Int32)), (.int (0 : Int32)), (.int (0 : Int32)), (.int (0 : Int32)), (.int (0 : Int32)), (.int (0 : Int32)), (.int (0 : Int32)), (.int (0 : Int32)), (.int (0 : Int32)), (.int (0 : Int32)), (.int (0 : Int32)), (.int (0 : Int32)), (.int (0 : Int32)), (.int (0 : Int32)), (.int (0 : Int32)), (.int (0 : Int32)), (.int (0 : Int32))] := A19
    refine W.dup (pc' := 29) X d_m4_28 rfl rfl ?_
    refine W.iconst (pc' := 30) X (4 : Int32) d_m4_29 (by decide) rfl ?_
    refine W.bipush (pc' := 32) X (48 : Int32) d_m4_30 (by decide) rfl ?_
    refine W.castore (pc' := 33) (i := 4) X A19 (by decide) rfl (ltb rfl) (show nar .char (48 : Int32) = (48 : Int32) from by decide) g5 nb6 d_m4_32 rfl fun T h20 X K21 A22 => ?_
    have A22 : Ar Z h20 a2 .char [(.int (48 : Int32)), (.int (48 : Int32)), (.int (48 : Int32)), (.int (48 : Int32)), (.int (48 : Int32)), (.int (0 : Int32)), (.int (0 : Int32)), (.int (0 : Int32)), (.int (0 : Int32)), (.int (0 : Int32)), (.int (0 : Int32)), (.int (0 : Int32)), (.int (0 : Int32)), (.int (0 : Int32)), (.int (0 : Int32)), (.int (0 : Int32)), (.int (0 : Int32)), (.int (0 : Int32)), (.int (0 : Int32)), (.int (0 : Int32)), (.int (0 : Int32)), (.int (0 : Int32)), (.int (0 : Int32)), (.int (0 : Int32)), (.int (0 : Int32)), (.int (0 : Int32)), (.int (0 : Int32)), (.int (0 : Int32)), (.int (0 : Int32)), (.int (0 : Int32)), (.int (0 : Int32)), (.int (0 : Int32)), (.int (0 : Int32)), (.int (0 : Int32)), (.int (0 : Int32)), (.int (0 : Int32)), (.int (0 : Int32)), (.int (0 : Int32)), (.int (0 : Int32)), (.int (0 : Int32)), (.int (0 : Int32)), (.int (0 : Int32)), (.int (0 : Int32)), (.int (0 : Int32)), (.int (0 : Int32)), (.int (0 : Int32)), (.int (0 : Int32)), (.int (0 : Int32)), (.int (0 : Int32)), (.int (0 : Int32)), (.int (0 : Int32)), (.int (0 : Int32)), (.int (0 : Int32)), (.int (0 : Int32)), (.int (0 : Int32)), (.int (0 : Int32)), (.int (0 : Int32)), (.int (0 : Int32)), (.int (0 : Int32)), (.int (0 : Int32)), (.int (0 : Int32)), (.int (0 : Int32)), (.int (0 : Int32)), (.int (0 : Int32))] := A22
    refine W.dup (pc' := 34) X d_m4_33 rfl rfl ?_
    refine W.iconst (pc' := 35) X (5 : Int32) d_m4_34 (by decide) rfl ?_
    refine W.bipush (pc' := 37) X (48 : Int32) d_m4_35 (by decide) rfl ?_
    refine W.castore (pc' := 38) (i := 5) X A22 (by decide) rfl (ltb rfl) (show nar .char (48 : Int32) = (48 : Int32) from by decide) g5 nb6 d_m4_37 rfl fun T h23 X K24 A25 => ?_
    have A25 : Ar Z h23 a2 .char [(.int (48 : Int32)), (.int (48 : Int32)), (.int (48 : Int32)), (.int (48 : Int32)), (.int (48 : Int32)), (.int (48 : Int32)), (.int (0 : Int32)), (.int (0 : Int32)), (.int (0 : Int32)), (.int (0 : Int32)), (.int (0 : Int32)), (.int (0 : Int32)), (.int (0 : Int32)), (.int (0 : Int32)), (.int (0 : Int32)), (.int (0 : Int32)), (.int (0 : Int32)), (.int (0 : Int32)), (.int (0 : Int32)), (.int (0 : Int32)), (.int (0 : Int32)), (.int (0 : Int32)), (.int (0 : Int32)), (.int (0 : Int32)), (.int (0 : Int32)), (.int (0 : Int32)), (.int (0 : Int32)), (.int (0 : Int32)), (.int (0 : Int32)), (.int (0 : Int32)), (.int (0 : Int32)), (.int (0 : Int32)), (.int (0 : Int32)), (.int (0 : Int32)), (.int (0 : Int32)), (.int (0 : Int32)), (.int (0 : Int32)), (.int (0 : Int32)), (.int (0 : Int32)), (.int (0 : Int32)), (.int (0 : Int32)), (.int (0 : Int32)), (.int (0 : Int32)), (.int (0 : Int32)), (.int (0 : Int32)), (.int (0 : Int32)), (.int (0 : Int32)), (.int (0 : Int32)), (.int (0 : Int32)), (.int (0 : Int32)), (.int (0 : Int32)), (.int (0 : Int32)), (.int (0 : Int32)), (.int (0 : Int32)), (.int (0 : Int32)), (.int (0 : Int32)), (.int (0 : Int32)), (.int (0 : Int32)), (.int (0 : Int32)), (.int (0 : Int32)), (.int (0 : Int32)), (.int (0 : Int32)), (.int (0 : Int32)), (.int (0 : Int32))] := A25
    refine W.dup (pc' := 39) X d_m4_38 rfl rfl ?_
    refine W.bipush (pc' := 41) X (6 : Int32) d_m4_39 (by decide) rfl ?_
    refine W.bipush (pc' := 43) X (48 : Int32) d_m4_41 (by decide) rfl ?_
    refine W.castore (pc' := 44) (i := 6) X A25 (by decide) rfl (ltb rfl) (show nar .char (48 : Int32) = (48 : Int32) from by decide) g5 nb6 d_m4_43 rfl fun T h26 X K27 A28 => ?_
    have A28 : Ar Z h26 a2 .char [(.int (48 : Int32)), (.int (48 : Int32)), (.int (48 : Int32)), (.int (48 : Int32)), (.int (48 : Int32)), (.int (48 : Int32)), (.int (48 : Int32)), (.int (0 : Int32)), (.int (0 : Int32)), (.int (0 : Int32)), (.int (0 : Int32)), (.int (0 : Int32)), (.int (0 : Int32)), (.int (0 : Int32)), (.int (0 : Int32)), (.int (0 : Int32)), (.int (0 : Int32)), (.int (0 : Int32)), (.int (0 : Int32)), (.int (0 : Int32)), (.int (0 : Int32)), (.int (0 : Int32)), (.int (0 : Int32)), (.int (0 : Int32)), (.int (0 : Int32)), (.int (0 : Int32)), (.int (0 : Int32)), (.int (0 : Int32)), (.int (0 : Int32)), (.int (0 : Int32)), (.int (0 : Int32)), (.int (0 : Int32)), (.int (0 : Int32)), (.int (0 : Int32)), (.int (0 : Int32)), (.int (0 : Int32)), (.int (0 : Int32)), (.int (0 : Int32)), (.int (0 : Int32)), (.int (0 : Int32)), (.int (0 : Int32)), (.int (0 : Int32)), (.int (0 : Int32)), (.int (0 : Int32)), (.int (0 : Int32)), (.int (0 : Int32)), (.int (0 : Int32)), (.int (0 : Int32)), (.int (0 : Int32)), (.int (0 : Int32)), (.int (0 : Int32)), (.int (0 : Int32)), (.int (0 : Int32)), (.int (0 : Int32)), (.int (0 : Int32)), (.int (0 : Int32)), (.int (0 : Int32)), (.int (0 : Int32)), (.int (0 : Int32)), (.int (0 : Int32)), (.int (0 : Int32)), (.int (0 : Int32)), (.int (0 : Int32)), (.int (0 : Int32))] := A28
    refine W.dup (pc' := 45) X d_m4_44 rfl rfl ?_
    refine W.bipush (pc' := 47) X (7 : Int32) d_m4_45 (by decide) rfl ?_
    refine W.bipush (pc' := 49) X (48 : Int32) d_m4_47 (by decide) rfl ?_
    refine W.castore (pc' := 50) (i := 7) X A28 (by decide) rfl (ltb rfl) (show nar .char (48 : Int32) = (48 : Int32) from by decide) g5 nb6 d_m4_49 rfl fun T h29 X K30 A31 => ?_
    have A31 : Ar Z h29 a2 .char [(.int (48 : Int32)), (.int (48 : Int32)), (.int (48 : Int32)), (.int (48 : Int32)), (.int (48 : Int32)), (.int (48 : Int32)), (.int (48 : Int32)), (.int (48 : Int32)), (.int (0 : Int32)), (.int (0 : Int32)), (.int (0 : Int32)), (.int (0 : Int32)), (.int (0 : Int32)), (.int (0 : Int32)), (.int (0 : Int32)), (.int (0 : Int32)), (.int (0 : Int32)), (.int (0 : Int32)), (.int (0 : Int32)), (.int (0 : Int32)), (.int (0 : Int32)), (.int (0 : Int32)), (.int (0 : Int32)), (.int (0 : Int32)), (.int (0 : Int32)), (.int (0 : Int32)), (.int (0 : Int32)), (.int (0 : Int32)), (.int (0 : Int32)), (.int (0 : Int32)), (.int (0 : Int32)), (.int (0 : Int32)), (.int (0 : Int32)), (.int (0 : Int32)), (.int (0 : Int32)), (.int (0 : Int32)), (.int (0 : Int32)), (.int (0 : Int32)), (.int (0 : Int32)), (.int (0 : Int32)), (.int (0 : Int32)), (.int (0 : Int32)), (.int (0 : Int32)), (.int (0 : Int32)), (.int (0 : Int32)), (.int (0 : Int32)), (.int (0 : Int32)), (.int (0 : Int32)), (.int (0 : Int32)), (.int (0 : Int32)), (.int (0 : Int32)), (.int (0 : Int32)), (.int (0 : Int32)), (.int (0 : Int32)), (.int (0 : Int32)), (.int (0 : Int32)), (.int (0 : Int32)), (.int (0 : Int32)), (.int (0 : Int32)), (.int (0 : Int32)), (.int (0 : Int32)), (.int (0 : Int32)), (.int (0 : Int32)), (.int (0 : Int32))] := A31
    refine W.dup (pc' := 51) X d_m4_50 rfl rfl ?_
    refine W.bipush (pc' := 53) X (8 : Int32) d_m4_51 (by decide) rfl ?_
    refine W.bipush (pc' := 55) X (48 : Int32) d_m4_53 (by decide) rfl ?_
    refine W.castore (pc' := 56) (i := 8) X A31 (by decide) rfl (ltb rfl) (show nar .char (48 : Int32) = (48 : Int32) from by decide) g5 nb6 d_m4_55 rfl fun T h32 X K33 A34 => ?_
    have A34 : Ar Z h32 a2 .char [(.int (48 : Int32)), (.int (48 : Int32)), (.int (48 : Int32)), (.int (48 : Int32)), (.int (48 : Int32)), (.int (48 : Int32)), (.int (48 : Int32)), (.int (48 : Int32)), (.int (48 : Int32)), (.int (0 : Int32)), (.int (0 : Int32)), (.int (0 : Int32)), (.int (0 : Int32)), (.int (0 : Int32)), (.int (0 : Int32)), (.int (0 : Int32)), (.int (0 : Int32)), (.int (0 : Int32)), (.int (0 : Int32)), (.int (0 : Int32)), (.int (0 : Int32)), (.int (0 : Int32)), (.int (0 : Int32)), (.int (0 : Int32)), (.int (0 : Int32)), (.int (0 : Int32)), (.int (0 : Int32)), (.int (0 : Int32)), (.int (0 : Int32)), (.int (0 : Int32)), (.int (0 : Int32)), (.int (0 : Int32)), (.int (0 : Int32)), (.int (0 : Int32)), (.int (0 : Int32)), (.int (0 : Int32)), (.int (0 : Int32)), (.int (0 : Int32)), (.int (0 : Int32)), (.int (0 : Int32)), (.int (0 : Int32)), (.int (0 : Int32)), (.int (0 : Int32)), (.int (0 : Int32)), (.int (0 : Int32)), (.int (0 : Int32)), (.int (0 : Int32)), (.int (0 : Int32)), (.int (0 : Int32)), (.int (0 : Int32)), (.int (0 : Int32)), (.int (0 : Int32)), (.int (0 : Int32)), (.int (0 : Int32)), (.int (0 : Int32)), (.int (0 : Int32)), (.int (0 : Int32)), (.int (0 : Int32)), (.int (0 : Int32)), (.int (0 : Int32)), (.int (0 : Int32)), (.int (0 : Int32)), (.int (0 : Int32)), (.int (0 : Int32))] := A34
    refine W.dup (pc' := 57) X d_m4_56 rfl rfl ?_
    refine W.bipush (pc' := 59) X (9 : Int32) d_m4_57 (by decide) rfl ?_
    refine W.bipush (pc' := 61) X (48 : Int32) d_m4_59 (by decide) rfl ?_
    refine W.castore (pc' := 62) (i := 9) X A34 (by decide) rfl (ltb rfl) (show nar .char (48 : Int32) = (48 : Int32) from by decide) g5 nb6 d_m4_61 rfl fun T h35 X K36 A37 => ?_
    have A37 : Ar Z h35 a2 .char [(.int (48 : Int32)), (.int (48 : Int32)), (.int (48 : Int32)), (.int (48 : Int32)), (.int (48 : Int32)), (.int (48 : Int32)), (.int (48 : Int32)), (.int (48 : Int32)), (.int (48 : Int32)), (.int (48 : Int32)), (.int (0 : Int32)), (.int (0 : Int32)), (.int (0 : Int32)), (.int (0 : Int32)), (.int (0 : Int32)), (.int (0 : Int32)), (.int (0 : Int32)), (.int (0 : Int32)), (.int (0 : Int32)), (.int (0 : Int32)), (.int (0 : Int32)), (.int (0 : Int32)), (.int (0 : Int32)), (.int (0 : Int32)), (.int (0 : Int32)), (.int (0 : Int32)), (.int (0 : Int32)), (.int (0 : Int32)), (.int (0 : Int32)), (.int (0 : Int32)), (.int (0 : Int32)), (.int (0 : Int32)), (.int (0 : Int32)), (.int (0 : Int32)), (.int (0 : Int32)), (.int (0 : Int32)), (.int (0 : Int32)), (.int (0 : Int32)), (.int (0 : Int32)), (.int (0 : Int32)), (.int (0 : Int32)), (.int (0 : Int32)), (.int (0 : Int32)), (.int (0 : Int32)), (.int (0 : Int32)), (.int (0 : Int32)), (.int (0 : Int32)), (.int (0 : Int32)), (.int (0 : Int32)), (.int (0 : Int32)), (.int (0 : Int32)), (.int (0 : Int32)), (.int (0 : Int32)), (.int (0 : Int32)), (.int (0 : Int32)), (.int (0 : Int32)), (.int (0 : Int32)), (.int (0 : Int32)), (.int (0 : Int32)), (.int (0 : Int32)), (.int (0 : Int32)), (.int (0 : Int32)), (.int (0 : Int32)), (.int (0 : Int32))] := A37
    refine W.dup (pc' := 63) X d_m4_62 rfl rfl ?_
    refine W.bipush (pc' := 65) X (10 : Int32) d_m4_63 (by decide) rfl ?_
    refine W.bipush (pc' := 67) X (48 : Int32) d_m4_65 (by decide) rfl ?_
    refine W.castore (pc' := 68) (i := 10) X A37 (by decide) rfl (ltb rfl) (show nar .char (48 : Int32) = (48 : Int32) from by decide) g5 nb6 d_m4_67 rfl fun T h38 X K39 A40 => ?_
    have A40 : Ar Z h38 a2 .char [(.int (48 : Int32)), (.int (48 : Int32)), (.int (48 : Int32)), (.int (48 : Int32)), (.int (48 : Int32)), (.int (48 : Int32)), (.int (48 : Int32)), (.int (48 : Int32)), (.int (48 : Int32)), (.int (48 : Int32)), (.int (48 : Int32)), (.int (0 : Int32)), (.int (0 : Int32)), (.int (0 : Int32)), (.int (0 : Int32)), (.int (0 : Int32)), (.int (0 : Int32)), (.int (0 : Int32)), (.int (0 : Int32)), (.int (0 : Int32)), (.int (0 : Int32)), (.int (0 : Int32)), (.int (0 : Int32)), (.int (0 : Int32)), (.int (0 : Int32)), (.int (0 : Int32)), (.int (0 : Int32)), (.int (0 : Int32)), (.int (0 : Int32)), (.int (0 : Int32)), (.int (0 : Int32)), (.int (0 : Int32)), (.int (0 : Int32)), (.int (0 : Int32)), (.int (0 : Int32)), (.int (0 : Int32)), (.int (0 : Int32)), (.int (0 : Int32)), (.int (0 : Int32)), (.int (0 : Int32)), (.int (0 : Int32)), (.int (0 : Int32)), (.int (0 : Int32)), (.int (0 : Int32)), (.int (0 : Int32)), (.int (0 : Int32)), (.int (0 : Int32)), (.int (0 : Int32)), (.int (0 : Int32)), (.int (0 : Int32)), (.int (0 : Int32)), (.int (0 : Int32)), (.int (0 : Int32)), (.int (0 : Int32)), (.int (0 : Int32)), (.int (0 : Int32)), (.int (0 : Int32)), (.int (0 : Int32)), (.int (0 : Int32)), (.int (0 : Int32)), (.int (0 : Int32)), (.int (0 : Int32)), (.int (0 : Int32)), (.int (0 : Int32))] := A40
    refine W.dup (pc' := 69) X d_m4_68 rfl rfl ?_
    refine W.bipush (pc' := 71) X (11 : Int32) d_m4_69 (by decide) rfl ?_
    refine W.bipush (pc' := 73) X (48 : Int32) d_m4_71 (by decide) rfl ?_
    refine W.castore (pc' := 74) (i := 11) X A40 (by decide) rfl (ltb rfl) (show nar .char (48 : Int32) = (48 : Int32) from by decide) g5 nb6 d_m4_73 rfl fun T h41 X K42 A43 => ?_
    have A43 : Ar Z h41 a2 .char [(.int (48 : Int32)), (.int (48 : Int32)), (.int (48 : Int32)), (.int (48 : Int32)), (.int (48 : Int32)), (.int (48 : Int32)), (.int (48 : Int32)), (.int (48 : Int32)), (.int (48 : Int32)), (.int (48 : Int32)), (.int (48 : Int32)), (.int (48 : Int32)), (.int (0 : Int32)), (.int (0 : Int32)), (.int (0 : Int32)), (.int (0 : Int32)), (.int (0 : Int32)), (.int (0 : Int32)), (.int (0 : Int32)), (.int (0 : Int32)), (.int (0 : Int32)), (.int (0 : Int32)), (.int (0 : Int32)), (.int (0 : Int32)), (.int (0 : Int32)), (.int (0 : Int32)), (.int (0 : Int32)), (.int (0 : Int32)), (.int (0 : Int32)), (.int (0 : Int32)), (.int (0 : Int32)), (.int (0 : Int32)), (.int (0 : Int32)), (.int (0 : Int32)), (.int (0 : Int32)), (.int (0 : Int32)), (.int (0 : Int32)), (.int (0 : Int32)), (.int (0 : Int32)), (.int (0 : Int32)), (.int (0 : Int32)), (.int (0 : Int32)), (.int (0 : Int32)), (.int (0 : Int32)), (.int (0 : Int32)), (.int (0 : Int32)), (.int (0 : Int32)), (.int (0 : Int32)), (.int (0 : Int32)), (.int (0 : Int32)), (.int (0 : Int32)), (.int (0 : Int32)), (.int (0 : Int32)), (.int (0 : Int32)), (.int (0 : Int32)), (.int (0 : Int32)), (.int (0 : Int32)), (.int (0 : Int32)), (.int (0 : Int32)), (.int (0 : Int32)), (.int (0 : Int32)), (.int (0 : Int32)), (.int (0 : Int32)), (.int (0 : Int32))] := A43
    refine W.dup (pc' := 75) X d_m4_74 rfl rfl ?_
    refine W.bipush (pc' := 77) X (12 : Int32) d_m4_75 (by decide) rfl ?_
    refine W.bipush (pc' := 79) X (48 : Int32) d_m4_77 (by decide) rfl ?_
    refine W.castore (pc' := 80) (i := 12) X A43 (by decide) rfl (ltb rfl) (show nar .char (48 : Int32) = (48 : Int32) from by decide) g5 nb6 d_m4_79 rfl fun T h44 X K45 A46 => ?_
    have A46 : Ar Z h44 a2 .char [(.int (48 : Int32)), (.int (48 : Int32)), (.int (48 : Int32)), (.int (48 : Int32)), (.int (48 : Int32)), (.int (48 : Int32)), (.int (48 : Int32)), (.int (48 : Int32)), (.int (48 : Int32)), (.int (48 : Int32)), (.int (48 : Int32)), (.int (48 : Int32)), (.int (48 : Int32)), (.int (0 : Int32)), (.int (0 : Int32)), (.int (0 : Int32)), (.int (0 : Int32)), (.int (0 : Int32)), (.int (0 : Int32)), (.int (0 : Int32)), (.int (0 : Int32)), (.int (0 : Int32)), (.int (0 : Int32)), (.int (0 : Int32)), (.int (0 : Int32)), (.int (0 : Int32)), (.int (0 : Int32)), (.int (0 : Int32)), (.int (0 : Int32)), (.int (0 : Int32)), (.int (0 : Int32)), (.int (0 : Int32)), (.int (0 : Int32)), (.int (0 : Int32)), (.int (0 : Int32)), (.int (0 : Int32)), (.int (0 : Int32)), (.int (0 : Int32)), (.int (0 : Int32)), (.int (0 : Int32)), (.int (0 : Int32)), (.int (0 : Int32)), (.int (0 : Int32)), (.int (0 : Int32)), (.int (0 : Int32)), (.int (0 : Int32)), (.int (0 : Int32)), (.int (0 : Int32)), (.int (0 : Int32)), (.int (0 : Int32)), (.int (0 : Int32)), (.int (0 : Int32)), (.int (0 : Int32)), (.int (0 : Int32)), (.int (0 : Int32)), (.int (0 : Int32)), (.int (0 : Int32)), (.int (0 : Int32)), (.int (0 : Int32)), (.int (0 : Int32)), (.int (0 : Int32)), (.int (0 : Int32)), (.int (0 : Int32)), (.int (0 : Int32))] := A46
    refine W.dup (pc' := 81) X d_m4_80 rfl rfl ?_
    refine W.bipush (pc' := 83) X (13 : Int32) d_m4_81 (by decide) rfl ?_
    refine W.bipush (pc' := 85) X (48 : Int32) d_m4_83 (by decide) rfl ?_
    refine W.castore (pc' := 86) (i := 13) X A46 (by decide) rfl (ltb rfl) (show nar .char (48 : Int32) = (48 : Int32) from by decide) g5 nb6 d_m4_85 rfl fun T h47 X K48 A49 => ?_
    have A49 : Ar Z h47 a2 .char [(.int (48 : Int32)), (.int (48 : Int32)), (.int (48 : Int32)), (.int (48 : Int32)), (.int (48 : Int32)), (.int (48 : Int32)), (.int (48 : Int32)), (.int (48 : Int32)), (.int (48 : Int32)), (.int (48 : Int32)), (.int (48 : Int32)), (.int (48 : Int32)), (.int (48 : Int32)), (.int (48 : Int32)), (.int (0 : Int32)), (.int (0 : Int32)), (.int (0 : Int32)), (.int (0 : Int32)), (.int (0 : Int32)), (.int (0 : Int32)), (.int (0 : Int32)), (.int (0 : Int32)), (.int (0 : Int32)), (.int (0 : Int32)), (.int (0 : Int32)), (.int (0 : Int32)), (.int (0 : Int32)), (.int (0 : Int32)), (.int (0 : Int32)), (.int (0 : Int32)), (.int (0 : Int32)), (.int (0 : Int32)), (.int (0 : Int32)), (.int (0 : Int32)), (.int (0 : Int32)), (.int (0 : Int32)), (.int (0 : Int32)), (.int (0 : Int32)), (.int (0 : Int32)), (.int (0 : Int32)), (.int (0 : Int32)), (.int (0 : Int32)), (.int (0 : Int32)), (.int (0 : Int32)), (.int (0 : Int32)), (.int (0 : Int32)), (.int (0 : Int32)), (.int (0 : Int32)), (.int (0 : Int32)), (.int (0 : Int32)), (.int (0 : Int32)), (.int (0 : Int32)), (.int (0 : Int32)), (.int (0 : Int32)), (.int (0 : Int32)), (.int (0 : Int32)), (.int (0 : Int32)), (.int (0 : Int32)), (.int (0 : Int32)), (.int (0 : Int32)), (.int (0 : Int32)), (.int (0 : Int32)), (.int (0 : Int32)), (.int (0 : Int32))] := A49
    refine W.dup (pc' := 87) X d_m4_86 rfl rfl ?_
    refine W.bipush (pc' := 89) X (14 : Int32) d_m4_87 (by decide) rfl ?_
    refine W.bipush (pc' := 91) X (48 : Int32) d_m4_89 (by decide) rfl ?_
    refine W.castore (pc' := 92) (i := 14) X A49 (by decide) rfl (ltb rfl) (show nar .char (48 : Int32) = (48 : Int32) from by decide) g5 nb6 d_m4_91 rfl fun T h50 X K51 A52 => ?_
    have A52 : Ar Z h50 a2 .char [(.int (48 : Int32)), (.int (48 : Int32)), (.int (48 : Int32)), (.int (48 : Int32)), (.int (48 : Int32)), (.int (48 : Int32)), (.int (48 : Int32)), (.int (48 : Int32)), (.int (48 : Int32)), (.int (48 : Int32)), (.int (48 : Int32)), (.int (48 : Int32)), (.int (48 : Int32)), (.int (48 : Int32)), (.int (48 : Int32)), (.int (0 : Int32)), (.int (0 : Int32)), (.int (0 : Int32)), (.int (0 : Int32)), (.int (0 : Int32)), (.int (0 : Int32)), (.int (0 : Int32)), (.int (0 : Int32)), (.int (0 : Int32)), (.int (0 : Int32)), (.int (0 : Int32)), (.int (0 : Int32)), (.int (0 : Int32)), (.int (0 : Int32)), (.int (0 : Int32)), (.int (0 : Int32)), (.int (0 : Int32)), (.int (0 : Int32)), (.int (0 : Int32)), (.int (0 : Int32)), (.int (0 : Int32)), (.int (0 : Int32)), (.int (0 : Int32)), (.int (0 : Int32)), (.int (0 : Int32)), (.int (0 : Int32)), (.int (0 : Int32)), (.int (0 : Int32)), (.int (0 : Int32)), (.int (0 : Int32)), (.int (0 : Int32)), (.int (0 : Int32)), (.int (0 : Int32)), (.int (0 : Int32)), (.int (0 : Int32)), (.int (0 : Int32)), (.int (0 : Int32)), (.int (0 : Int32)), (.int (0 : Int32)), (.int (0 : Int32)), (.int (0 : Int32)), (.int (0 : Int32)), (.int (0 : Int32)), (.int (0 : Int32)), (.int (0 : Int32)), (.int (0 : Int32)), (.int (0 : Int32)), (.int (0 : Int32)), (.int (0 : Int32))] := A52
    refine W.dup (pc' := 93) X d_m4_92 rfl rfl ?_
    refine W.bipush (pc' := 95) X (15 : Int32) d_m4_93 (by decide) rfl ?_
    refine W.bipush (pc' := 97) X (48 : Int32) d_m4_95 (by decide) rfl ?_
    refine W.castore (pc' := 98) (i := 15) X A52 (by decide) rfl (ltb rfl) (show nar .char (48 : Int32) = (48 : Int32) from by decide) g5 nb6 d_m4_97 rfl fun T h53 X K54 A55 => ?_
    have A55 : Ar Z h53 a2 .char [(.int (48 : Int32)), (.int (48 : Int32)), (.int (48 : Int32)), (.int (48 : Int32)), (.int (48 : Int32)), (.int (48 : Int32)), (.int (48 : Int32)), (.int (48 : Int32)), (.int (48 : Int32)), (.int (48 : Int32)), (.int (48 : Int32)), (.int (48 : Int32)), (.int (48 : Int32)), (.int (48 : Int32)), (.int (48 : Int32)), (.int (48 : Int32)), (.int (0 : Int32)), (.int (0 : Int32)), (.int (0 : Int32)), (.int (0 : Int32)), (.int (0 : Int32)), (.int (0 : Int32)), (.int (0 : Int32)), (.int (0 : Int32)), (.int (0 : Int32)), (.int (0 : Int32)), (.int (0 : Int32)), (.int (0 : Int32)), (.int (0 : Int32)), (.int (0 : Int32)), (.int (0 : Int32)), (.int (0 : Int32)), (.int (0 : Int32)), (.int (0 : Int32)), (.int (0 : Int32)), (.int (0 : Int32)), (.int (0 : Int32)), (.int (0 : Int32)), (.int (0 : Int32)), (.int (0 : Int32)), (.int (0 : Int32)), (.int (0 : Int32)), (.int (0 : Int32)), (.int (0 : Int32)), (.int (0 : Int32)), (.int (0 : Int32)), (.int (0 : Int32)), (.int (0 : Int32)), (.int (0 : Int32)), (.int (0 : Int32)), (.int (0 : Int32)), (.int (0 : Int32)), (.int (0 : Int32)), (.int (0 : Int32)), (.int (0 : Int32)), (.int (0 : Int32)), (.int (0 : Int32)), (.int (0 : Int32)), (.int (0 : Int32)), (.int (0 : Int32)), (.int (0 : Int32)), (.int (0 : Int32)), (.int (0 : Int32)), (.int (0 : Int32))] := A55
    refine W.dup (pc' := 99) X d_m4_98 rfl rfl ?_
    refine W.bipush (pc' := 101) X (16 : Int32) d_m4_99 (by decide) rfl ?_
    refine W.bipush (pc' := 103) X (48 : Int32) d_m4_101 (by decide) rfl ?_
    refine W.castore (pc' := 104) (i := 16) X A55 (by decide) rfl (ltb rfl) (show nar .char (48 : Int32) = (48 : Int32) from by decide) g5 nb6 d_m4_103 rfl fun T h56 X K57 A58 => ?_
    have A58 : Ar Z h56 a2 .char [(.int (48 : Int32)), (.int (48 : Int32)), (.int (48 : Int32)), (.int (48 : Int32)), (.int (48 : Int32)), (.int (48 : Int32)), (.int (48 : Int32)), (.int (48 : Int32)), (.int (48 : Int32)), (.int (48 : Int32)), (.int (48 : Int32)), (.int (48 : Int32)), (.int (48 : Int32)), (.int (48 : Int32)), (.int (48 : Int32)), (.int (48 : Int32)), (.int (48 : Int32)), (.int (0 : Int32)), (.int (0 : Int32)), (.int (0 : Int32)), (.int (0 : Int32)), (.int (0 : Int32)), (.int (0 : Int32)), (.int (0 : Int32)), (.int (0 : Int32)), (.int (0 : Int32)), (.int (0 : Int32)), (.int (0 : Int32)), (.int (0 : Int32)), (.int (0 : Int32)), (.int (0 : Int32)), (.int (0 : Int32)), (.int (0 : Int32)), (.int (0 : Int32)), (.int (0 : Int32)), (.int (0 : Int32)), (.int (0 : Int32)), (.int (0 : Int32)), (.int (0 : Int32)), (.int (0 : Int32)), (.int (0 : Int32)), (.int (0 : Int32)), (.int (0 : Int32)), (.int (0 : Int32)), (.int (0 : Int32)), (.int (0 : Int32)), (.int (0 : Int32)), (.int (0 : Int32)), (.int (0 : Int32)), (.int (0 : Int32)), (.int (0 : Int32)), (.int (0 : Int32)), (.int (0 : Int32)), (.int (0 : Int32)), (.int (0 : Int32)), (.int (0 : Int32)), (.int (0 : Int32)), (.int (0 : Int32)), (.int (0 : Int32)), (.int (0 : Int32)), (.int (0 : Int32)), (.int (0 : Int32)), (.int (0 : Int32)), (.int (0 : Int32))] := A58
    refine W.dup (pc' := 105) X d_m4_104 rfl rfl ?_
    refine W.bipush (pc' := 107) X (17 : Int32) d_m4_105 (by decide) rfl ?_
    refine W.bipush (pc' := 109) X (48 : Int32) d_m4_107 (by decide) rfl ?_
    refine W.castore (pc' := 110) (i := 17) X A58 (by decide) rfl (ltb rfl) (show nar .char (48 : Int32) = (48 : Int32) from by decide) g5 nb6 d_m4_109 rfl fun T h59 X K60 A61 => ?_
    have A61 : Ar Z h59 a2 .char [(.int (48 : Int32)), (.int (48 : Int32)), (.int (48 : Int32)), (.int (48 : Int32)), (.int (48 : Int32)), (.int (48 : Int32)), (.int (48 : Int32)), (.int (48 : Int32)), (.int (48 : Int32)), (.int (48 : Int32)), (.int (48 : Int32)), (.int (48 : Int32)), (.int (48 : Int32)), (.int (48 : Int32)), (.int (48 : Int32)), (.int (48 : Int32)), (.int (48 : Int32)), (.int (48 : Int32)), (.int (0 : Int32)), (.int (0 : Int32)), (.int (0 : Int32)), (.int (0 : Int32)), (.int (0 : Int32)), (.int (0 : Int32)), (.int (0 : Int32)), (.int (0 : Int32)), (.int (0 : Int32)), (.int (0 : Int32)), (.int (0 : Int32)), (.int (0 : Int32)), (.int (0 : Int32)), (.int (0 : Int32)), (.int (0 : Int32)), (.int (0 : Int32)), (.int (0 : Int32)), (.int (0 : Int32)), (.int (0 : Int32)), (.int (0 : Int32)), (.int (0 : Int32)), (.int (0 : Int32)), (.int (0 : Int32)), (.int (0 : Int32)), (.int (0 : Int32)), (.int (0 : Int32)), (.int (0 : Int32)), (.int (0 : Int32)), (.int (0 : Int32)), (.int (0 : Int32)), (.int (0 : Int32)), (.int (0 : Int32)), (.int (0 : Int32)), (.int (0 : Int32)), (.int (0 : Int32)), (.int (0 : Int32)), (.int (0 : Int32)), (.int (0 : Int32)), (.int (0 : Int32)), (.int (0 : Int32)), (.int (0 : Int32)), (.int (0 : Int32)), (.int (0 : Int32)), (.int (0 : Int32)), (.int (0 : Int32)), (.int (0 : Int32))] := A61
    refine W.dup (pc' := 111) X d_m4_110 rfl rfl ?_
    refine W.bipush (pc' := 113) X (18 : Int32) d_m4_111 (by decide) rfl ?_
    refine W.bipush (pc' := 115) X (48 : Int32) d_m4_113 (by decide) rfl ?_
    refine W.castore (pc' := 116) (i := 18) X A61 (by decide) rfl (ltb rfl) (show nar .char (48 : Int32) = (48 : Int32) from by decide) g5 nb6 d_m4_115 rfl fun T h62 X K63 A64 => ?_
    have A64 : Ar Z h62 a2 .char [(.int (48 : Int32)), (.int (48 : Int32)), (.int (48 : Int32)), (.int (48 : Int32)), (.int (48 : Int32)), (.int (48 : Int32)), (.int (48 : Int32)), (.int (48 : Int32)), (.int (48 : Int32)), (.int (48 : Int32)), (.int (48 : Int32)), (.int (48 : Int32)), (.int (48 : Int32)), (.int (48 : Int32)), (.int (48 : Int32)), (.int (48 : Int32)), (.int (48 : Int32)), (.int (48 : Int32)), (.int (48 : Int32)), (.int (0 : Int32)), (.int (0 : Int32)), (.int (0 : Int32)), (.int (0 : Int32)), (.int (0 : Int32)), (.int (0 : Int32)), (.int (0 : Int32)), (.int (0 : Int32)), (.int (0 : Int32)), (.int (0 : Int32)), (.int (0 : Int32)), (.int (0 : Int32)), (.int (0 : Int32)), (.int (0 : Int32)), (.int (0 : Int32)), (.int (0 : Int32)), (.int (0 : Int32)), (.int (0 : Int32)), (.int (0 : Int32)), (.int (0 : Int32)), (.int (0 : Int32)), (.int (0 : Int32)), (.int (0 : Int32)), (.int (0 : Int32)), (.int (0 : Int32)), (.int (0 : Int32)), (.int (0 : Int32)), (.int (0 : Int32)), (.int (0 : Int32)), (.int (0 : Int32)), (.int (0 : Int32)), (.int (0 : Int32)), (.int (0 : Int32)), (.int (0 : Int32)), (.int (0 : Int32)), (.int (0 : Int32)), (.int (0 : Int32)), (.int (0 : Int32)), (.int (0 : Int32)), (.int (0 : Int32)), (.int (0 : Int32)), (.int (0 : Int32)), (.int (0 : Int32)), (.int (0 : Int32)), (.int (0 : Int32))] := A64
    refine W.dup (pc' := 117) X d_m4_116 rfl rfl ?_
    refine W.bipush (pc' := 119) X (19 : Int32) d_m4_117 (by decide) rfl ?_
    refine W.bipush (pc' := 121) X (48 : Int32) d_m4_119 (by decide) rfl ?_
    refine W.castore (pc' := 122) (i := 19) X A64 (by decide) rfl (ltb rfl) (show nar .char (48 : Int32) = (48 : Int32) from by decide) g5 nb6 d_m4_121 rfl fun T h65 X K66 A67 => ?_
    have A67 : Ar Z h65 a2 .char [(.int (48 : Int32)), (.int (48 : Int32)), (.int (48 : Int32)), (.int (48 : Int32)), (.int (48 : Int32)), (.int (48 : Int32)), (.int (48 : Int32)), (.int (48 : Int32)), (.int (48 : Int32)), (.int (48 : Int32)), (.int (48 : Int32)), (.int (48 : Int32)), (.int (48 : Int32)), (.int (48 : Int32)), (.int (48 : Int32)), (.int (48 : Int32)), (.int (48 : Int32)), (.int (48 : Int32)), (.int (48 : Int32)), (.int (48 : Int32)), (.int (0 : Int32)), (.int (0 : Int32)), (.int (0 : Int32)), (.int (0 : Int32)), (.int (0 : Int32)), (.int (0 : Int32)), (.int (0 : Int32)), (.int (0 : Int32)), (.int (0 : Int32)), (.int (0 : Int32)), (.int (0 : Int32)), (.int (0 : Int32)), (.int (0 : Int32)), (.int (0 : Int32)), (.int (0 : Int32)), (.int (0 : Int32)), (.int (0 : Int32)), (.int (0 : Int32)), (.int (0 : Int32)), (.int (0 : Int32)), (.int (0 : Int32)), (.int (0 : Int32)), (.int (0 : Int32)), (.int (0 : Int32)), (.int (0 : Int32)), (.int (0 : Int32)), (.int (0 : Int32)), (.int (0 : Int32)), (.int (0 : Int32)), (.int (0 : Int32)), (.int (0 : Int32)), (.int (0 : Int32)), (.int (0 : Int32)), (.int (0 : Int32)), (.int (0 : Int32)), (.int (0 : Int32)), (.int (0 : Int32)), (.int (0 : Int32)), (.int (0 : Int32)), (.int (0 : Int32)), (.int (0 : Int32)), (.int (0 : Int32)), (.int (0 : Int32)), (.int (0 : Int32))] := A67
    refine W.dup (pc' := 123) X d_m4_122 rfl rfl ?_
    refine W.bipush (pc' := 125) X (20 : Int32) d_m4_123 (by decide) rfl ?_
    refine W.bipush (pc' := 127) X (48 : Int32) d_m4_125 (by decide) rfl ?_
    refine W.castore (pc' := 128) (i := 20) X A67 (by decide) rfl (ltb rfl) (show nar .char (48 : Int32) = (48 : Int32) from by decide) g5 nb6 d_m4_127 rfl fun T h68 X K69 A70 => ?_
    have A70 : Ar Z h68 a2 .char [(.int (48 : Int32)), (.int (48 : Int32)), (.int (48 : Int32)), (.int (48 : Int32)), (.int (48 : Int32)), (.int (48 : Int32)), (.int (48 : Int32)), (.int (48 : Int32)), (.int (48 : Int32)), (.int (48 : Int32)), (.int (48 : Int32)), (.int (48 : Int32)), (.int (48 : Int32)), (.int (48 : Int32)), (.int (48 : Int32)), (.int (48 : Int32)), (.int (48 : Int32)), (.int (48 : Int32)), (.int (48 : Int32)), (.int (48 : Int32)), (.int (48 : Int32)), (.int (0 : Int32)), (.int (0 : Int32)), (.int (0 : Int32)), (.int (0 : Int32)), (.int (0 : Int32)), (.int (0 : Int32)), (.int (0 : Int32)), (.int (0 : Int32)), (.int (0 : Int32)), (.int (0 : Int32)), (.int (0 : Int32)), (.int (0 : Int32)), (.int (0 : Int32)), (.int (0 : Int32)), (.int (0 : Int32)), (.int (0 : Int32)), (.int (0 : Int32)), (.int (0 : Int32)), (.int (0 : Int32)), (.int (0 : Int32)), (.int (0 : Int32)), (.int (0 : Int32)), (.int (0 : Int32)), (.int (0 : Int32)), (.int (0 : Int32)), (.int (0 : Int32)), (.int (0 : Int32)), (.int (0 : Int32)), (.int (0 : Int32)), (.int (0 : Int32)), (.int (0 : Int32)), (.int (0 : Int32)), (.int (0 : Int32)), (.int (0 : Int32)), (.int (0 : Int32)), (.int (0 : Int32)), (.int (0 : Int32)), (.int (0 : Int32)), (.int (0 : Int32)), (.int (0 : Int32)), (.int (0 : Int32)), (.int (0 : Int32)), (.int (0 : Int32))] := A70
    refine W.dup (pc' := 129) X d_m4_128 rfl rfl ?_
    refine W.bipush (pc' := 131) X (21 : Int32) d_m4_129 (by decide) rfl ?_
    refine W.bipush (pc' := 133) X (48 : Int32) d_m4_131 (by decide) rfl ?_
    refine W.castore (pc' := 134) (i := 21) X A70 (by decide) rfl (ltb rfl) (show nar .char (48 : Int32) = (48 : Int32) from by decide) g5 nb6 d_m4_133 rfl fun T h71 X K72 A73 => ?_
    have A73 : Ar Z h71 a2 .char [(.int (48 : Int32)), (.int (48 : Int32)), (.int (48 : Int32)), (.int (48 : Int32)), (.int (48 : Int32)), (.int (48 : Int32)), (.int (48 : Int32)), (.int (48 : Int32)), (.int (48 : Int32)), (.int (48 : Int32)), (.int (48 : Int32)), (.int (48 : Int32)), (.int (48 : Int32)), (.int (48 : Int32)), (.int (48 : Int32)), (.int (48 : Int32)), (.int (48 : Int32)), (.int (48 : Int32)), (.int (48 : Int32)), (.int (48 : Int32)), (.int (48 : Int32)), (.int (48 : Int32)), (.int (0 : Int32)), (.int (0 : Int32)), (.int (0 : Int32)), (.int (0 : Int32)), (.int (0 : Int32)), (.int (0 : Int32)), (.int (0 : Int32)), (.int (0 : Int32)), (.int (0 : Int32)), (.int (0 : Int32)), (.int (0 : Int32)), (.int (0 : Int32)), (.int (0 : Int32)), (.int (0 : Int32)), (.int (0 : Int32)), (.int (0 : Int32)), (.int (0 : Int32)), (.int (0 : Int32)), (.int (0 : Int32)), (.int (0 : Int32)), (.int (0 : Int32)), (.int (0 : Int32)), (.int (0 : Int32)), (.int (0 : Int32)), (.int (0 : Int32)), (.int (0 : Int32)), (.int (0 : Int32)), (.int (0 : Int32)), (.int (0 : Int32)), (.int (0 : Int32)), (.int (0 : Int32)), (.int (0 : Int32)), (.int (0 : Int32)), (.int (0 : Int32)), (.int (0 : Int32)), (.int (0 : Int32)), (.int (0 : Int32)), (.int (0 : Int32)), (.int (0 : Int32)), (.int (0 : Int32)), (.int (0 : Int32)), (.int (0 : Int32))] := A73
    refine W.dup (pc' := 135) X d_m4_134 rfl rfl ?_
    refine W.bipush (pc' := 137) X (22 : Int32) d_m4_135 (by decide) rfl ?_
    refine W.bipush (pc' := 139) X (48 : Int32) d_m4_137 (by decide) rfl ?_
    refine W.castore (pc' := 140) (i := 22) X A73 (by decide) rfl (ltb rfl) (show nar .char (48 : Int32) = (48 : Int32) from by decide) g5 nb6 d_m4_139 rfl fun T h74 X K75 A76 => ?_
    have A76 : Ar Z h74 a2 .char [(.int (48 : Int32)), (.int (48 : Int32)), (.int (48 : Int32)), (.int (48 : Int32)), (.int (48 : Int32)), (.int (48 : Int32)), (.int (48 : Int32)), (.int (48 : Int32)), (.int (48 : Int32)), (.int (48 : Int32)), (.int (48 : Int32)), (.int (48 : Int32)), (.int (48 : Int32)), (.int (48 : Int32)), (.int (48 : Int32)), (.int (48 : Int32)), (.int (48 : Int32)), (.int (48 : Int32)), (.int (48 : Int32)), (.int (48 : Int32)), (.int (48 : Int32)), (.int (48 : Int32)), (.int (48 : Int32)), (.int (0 : Int32)), (.int (0 : Int32)), (.int (0 : Int32)), (.int (0 : Int32)), (.int (0 : Int32)), (.int (0 : Int32)), (.int (0 : Int32)), (.int (0 : Int32)), (.int (0 : Int32)), (.int (0 : Int32)), (.int (0 : Int32)), (.int (0 : Int32)), (.int (0 : Int32)), (.int (0 : Int32)), (.int (0 : Int32)), (.int (0 : Int32)), (.int (0 : Int32)), (.int (0 : Int32)), (.int (0 : Int32)), (.int (0 : Int32)), (.int (0 : Int32)), (.int (0 : Int32)), (.int (0 : Int32)), (.int (0 : Int32)), (.int (0 : Int32)), (.int (0 : Int32)), (.int (0 : Int32)), (.int (0 : Int32)), (.int (0 : Int32)), (.int (0 : Int32)), (.int (0 : Int32)), (.int (0 : Int32)), (.int (0 : Int32)), (.int (0 : Int32)), (.int (0 : Int32)), (.int (0 : Int32)), (.int (0 : Int32)), (.int (0 : Int32)), (.int (0 : Int32)), (.int (0 : Int32)), (.int (0 : Int32))] := A76
    refine W.dup (pc' := 141) X d_m4_140 rfl rfl ?_
    refine W.bipush (pc' := 143) X (23 : Int32) d_m4_141 (by decide) rfl ?_
    refine W.bipush (pc' := 145) X (48 : Int32) d_m4_143 (by decide) rfl ?_
    refine W.castore (pc' := 146) (i := 23) X A76 (by decide) rfl (ltb rfl) (show nar .char (48 : Int32) = (48 : Int32) from by decide) g5 nb6 d_m4_145 rfl fun T h77 X K78 A79 => ?_
    have A79 : Ar Z h77 a2 .char [(.int (48 : Int32)), (.int (48 : Int32)), (.int (48 : Int32)), (.int (48 : Int32)), (.int (48 : Int32)), (.int (48 : Int32)), (.int (48 : Int32)), (.int (48 : Int32)), (.int (48 : Int32)), (.int (48 : Int32)), (.int (48 : Int32)), (.int (48 : Int32)), (.int (48 : Int32)), (.int (48 : Int32)), (.int (48 : Int32)), (.int (48 : Int32)), (.int (48 : Int32)), (.int (48 : Int32)), (.int (48 : Int32)), (.int (48 : Int32)), (.int (48 : Int32)), (.int (48 : Int32)), (.int (48 : Int32)), (.int (48 : Int32)), (.int (0 : Int32)), (.int (0 : Int32)), (.int (0 : Int32)), (.int (0 : Int32)), (.int (0 : Int32)), (.int (0 : Int32)), (.int (0 : Int32)), (.int (0 : Int32)), (.int (0 : Int32)), (.int (0 : Int32)), (.int (0 : Int32)), (.int (0 : Int32)), (.int (0 : Int32)), (.int (0 : Int32)), (.int (0 : Int32)), (.int (0 : Int32)), (.int (0 : Int32)), (.int (0 : Int32)), (.int (0 : Int32)), (.int (0 : Int32)), (.int (0 : Int32)), (.int (0 : Int32)), (.int (0 : Int32)), (.int (0 : Int32)), (.int (0 : Int32)), (.int (0 : Int32)), (.int (0 : Int32)), (.int (0 : Int32)), (.int (0 : Int32)), (.int (0 : Int32)), (.int (0 : Int32)), (.int (0 : Int32)), (.int (0 : Int32)), (.int (0 : Int32)), (.int (0 : Int32)), (.int (0 : Int32)), (.int (0 : Int32)), (.int (0 : Int32)), (.int (0 : Int32)), (.int (0 : Int32))] := A79
    refine W.dup (pc' := 147) X d_m4_146 rfl rfl ?_
    refine W.bipush (pc' := 149) X (24 : Int32) d_m4_147 (by decide) rfl ?_
    refine W.bipush (pc' := 151) X (48 : Int32) d_m4_149 (by decide) rfl ?_
    refine W.castore (pc' := 152) (i := 24) X A79 (by decide) rfl (ltb rfl) (show nar .char (48 : Int32) = (48 : Int32) from by decide) g5 nb6 d_m4_151 rfl fun T h80 X K81 A82 => ?_
    have A82 : Ar Z h80 a2 .char [(.int (48 : Int32)), (.int (48 : Int32)), (.int (48 : Int32)), (.int (48 : Int32)), (.int (48 : Int32)), (.int (48 : Int32)), (.int (48 : Int32)), (.int (48 : Int32)), (.int (48 : Int32)), (.int (48 : Int32)), (.int (48 : Int32)), (.int (48 : Int32)), (.int (48 : Int32)), (.int (48 : Int32)), (.int (48 : Int32)), (.int (48 : Int32)), (.int (48 : Int32)), (.int (48 : Int32)), (.int (48 : Int32)), (.int (48 : Int32)), (.int (48 : Int32)), (.int (48 : Int32)), (.int (48 : Int32)), (.int (48 : Int32)), (.int (48 : Int32)), (.int (0 : Int32)), (.int (0 : Int32)), (.int (0 : Int32)), (.int (0 : Int32)), (.int (0 : Int32)), (.int (0 : Int32)), (.int (0 : Int32)), (.int (0 : Int32)), (.int (0 : Int32)), (.int (0 : Int32)), (.int (0 : Int32)), (.int (0 : Int32)), (.int (0 : Int32)), (.int (0 : Int32)), (.int (0 : Int32)), (.int (0 : Int32)), (.int (0 : Int32)), (.int (0 : Int32)), (.int (0 : Int32)), (.int (0 : Int32)), (.int (0 : Int32)), (.int (0 : Int32)), (.int (0 : Int32)), (.int (0 : Int32)), (.int (0 : Int32)), (.int (0 : Int32)), (.int (0 : Int32)), (.int (0 : Int32)), (.int (0 : Int32)), (.int (0 : Int32)), (.int (0 : Int32)), (.int (0 : Int32)), (.int (0 : Int32)), (.int (0 : Int32)), (.int (0 : Int32)), (.int (0 : Int32)), (.int (0 : Int32)), (.int (0 : Int32)), (.int (0 : Int32))] := A82
    refine W.dup (pc' := 153) X d_m4_152 rfl rfl ?_
    refine W.bipush (pc' := 155) X (25 : Int32) d_m4_153 (by decide) rfl ?_
    refine W.bipush (pc' := 157) X (48 : Int32) d_m4_155 (by decide) rfl ?_
    refine W.castore (pc' := 158) (i := 25) X A82 (by decide) rfl (ltb rfl) (show nar .char (48 : Int32) = (48 : Int32) from by decide) g5 nb6 d_m4_157 rfl fun T h83 X K84 A85 => ?_
    have A85 : Ar Z h83 a2 .char [(.int (48 : Int32)), (.int (48 : Int32)), (.int (48 : Int32)), (.int (48 : Int32)), (.int (48 : Int32)), (.int (48 : Int32)), (.int (48 : Int32)), (.int (48 : Int32)), (.int (48 : Int32)), (.int (48 : Int32)), (.int (48 : Int32)), (.int (48 : Int32)), (.int (48 : Int32)), (.int (48 : Int32)), (.int (48 : Int32)), (.int (48 : Int32)), (.int (48 : Int32)), (.int (48 : Int32)), (.int (48 : Int32)), (.int (48 : Int32)), (.int (48 : Int32)), (.int (48 : Int32)), (.int (48 : Int32)), (.int (48 : Int32)), (.int (48 : Int32)), (.int (48 : Int32)), (.int (0 : Int32)), (.int (0 : Int32)), (.int (0 : Int32)), (.int (0 : Int32)), (.int (0 : Int32)), (.int (0 : Int32)), (.int (0 : Int32)), (.int (0 : Int32)), (.int (0 : Int32)), (.int (0 : Int32)), (.int (0 : Int32)), (.int (0 : Int32)), (.int (0 : Int32)), (.int (0 : Int32)), (.int (0 : Int32)), (.int (0 : Int32)), (.int (0 : Int32)), (.int (0 : Int32)), (.int (0 : Int32)), (.int (0 : Int32)), (.int (0 : Int32)), (.int (0 : Int32)), (.int (0 : Int32)), (.int (0 : Int32)), (.int (0 : Int32)), (.int (0 : Int32)), (.int (0 : Int32)), (.int (0 : Int32)), (.int (0 : Int32)), (.int (0 : Int32)), (.int (0 : Int32)), (.int (0 : Int32)), (.int (0 : Int32)), (.int (0 : Int32)), (.int (0 : Int32)), (.int (0 : Int32)), (.int (0 : Int32)), (.int (0 : Int32))] := A85
    refine W.dup (pc' := 159) X d_m4_158 rfl rfl ?_
    refine W.bipush (pc' := 161) X (26 : Int32) d_m4_159 (by decide) rfl ?_
    refine W.bipush (pc' := 163) X (48 : Int32) d_m4_161 (by decide) rfl ?_
    refine W.castore (pc' := 164) (i := 26) X A85 (by decide) rfl (ltb rfl) (show nar .char (48 : Int32) = (48 : Int32) from by decide) g5 nb6 d_m4_163 rfl fun T h86 X K87 A88 => ?_
    have A88 : Ar Z h86 a2 .char [(.int (48 : Int32)), (.int (48 : Int32)), (.int (48 : Int32)), (.int (48 : Int32)), (.int (48 : Int32)), (.int (48 : Int32)), (.int (48 : Int32)), (.int (48 : Int32)), (.int (48 : Int32)), (.int (48 : Int32)), (.int (48 : Int32)), (.int (48 : Int32)), (.int (48 : Int32)), (.int (48 : Int32)), (.int (48 : Int32)), (.int (48 : Int32)), (.int (48 : Int32)), (.int (48 : Int32)), (.int (48 : Int32)), (.int (48 : Int32)), (.int (48 : Int32)), (.int (48 : Int32)), (.int (48 : Int32)), (.int (48 : Int32)), (.int (48 : Int32)), (.int (48 : Int32)), (.int (48 : Int32)), (.int (0 : Int32)), (.int (0 : Int32)), (.int (0 : Int32)), (.int (0 : Int32)), (.int (0 : Int32)), (.int (0 : Int32)), (.int (0 : Int32)), (.int (0 : Int32)), (.int (0 : Int32)), (.int (0 : Int32)), (.int (0 : Int32)), (.int (0 : Int32)), (.int (0 : Int32)), (.int (0 : Int32)), (.int (0 : Int32)), (.int (0 : Int32)), (.int (0 : Int32)), (.int (0 : Int32)), (.int (0 : Int32)), (.int (0 : Int32)), (.int (0 : Int32)), (.int (0 : Int32)), (.int (0 : Int32)), (.int (0 : Int32)), (.int (0 : Int32)), (.int (0 : Int32)), (.int (0 : Int32)), (.int (0 : Int32)), (.int (0 : Int32)), (.int (0 : Int32)), (.int (0 : Int32)), (.int (0 : Int32)), (.int (0 : Int32)), (.int (0 : Int32)), (.int (0 : Int32)), (.int (0 : Int32)), (.int (0 : Int32))] := A88
    refine W.dup (pc' := 165) X d_m4_164 rfl rfl ?_
    refine W.bipush (pc' := 167) X (27 : Int32) d_m4_165 (by decide) rfl ?_
    refine W.bipush (pc' := 169) X (48 : Int32) d_m4_167 (by decide) rfl ?_
    refine W.castore (pc' := 170) (i := 27) X A88 (by decide) rfl (ltb rfl) (show nar .char (48 : Int32) = (48 : Int32) from by decide) g5 nb6 d_m4_169 rfl fun T h89 X K90 A91 => ?_
    have A91 : Ar Z h89 a2 .char [(.int (48 : Int32)), (.int (48 : Int32)), (.int (48 : Int32)), (.int (48 : Int32)), (.int (48 : Int32)), (.int (48 : Int32)), (.int (48 : Int32)), (.int (48 : Int32)), (.int (48 : Int32)), (.int (48 : Int32)), (.int (48 : Int32)), (.int (48 : Int32)), (.int (48 : Int32)), (.int (48 : Int32)), (.int (48 : Int32)), (.int (48 : Int32)), (.int (48 : Int32)), (.int (48 : Int32)), (.int (48 : Int32)), (.int (48 : Int32)), (.int (48 : Int32)), (.int (48 : Int32)), (.int (48 : Int32)), (.int (48 : Int32)), (.int (48 : Int32)), (.int (48 : Int32)), (.int (48 : Int32)), (.int (48 : Int32)), (.int (0 : Int32)), (.int (0 : Int32)), (.int (0 : Int32)), (.int (0 : Int32)), (.int (0 : Int32)), (.int (0 : Int32)), (.int (0 : Int32)), (.int (0 : Int32)), (.int (0 : Int32)), (.int (0 : Int32)), (.int (0 : Int32)), (.int (0 : Int32)), (.int (0 : Int32)), (.int (0 : Int32)), (.int (0 : Int32)), (.int (0 : Int32)), (.int (0 : Int32)), (.int (0 : Int32)), (.int (0 : Int32)), (.int (0 : Int32)), (.int (0 : Int32)), (.int (0 : Int32)), (.int (0 : Int32)), (.int (0 : Int32)), (.int (0 : Int32)), (.int (0 : Int32)), (.int (0 : Int32)), (.int (0 : Int32)), (.int (0 : Int32)), (.int (0 : Int32)), (.int (0 : Int32)), (.int (0 : Int32)), (.int (0 : Int32)), (.int (0 : Int32)), (.int (0 : Int32)), (.int (0 : Int32))] := A91
    refine W.dup (pc' := 171) X d_m4_170 rfl rfl ?_
    refine W.bipush (pc' := 173) X (28 : Int32) d_m4_171 (by decide) rfl ?_
    refine W.bipush (pc' := 175) X (48 : Int32) d_m4_173 (by decide) rfl ?_
    refine W.castore (pc' := 176) (i := 28) X A91 (by decide) rfl (ltb rfl) (show nar .char (48 : Int32) = (48 : Int32) from by decide) g5 nb6 d_m4_175 rfl fun T h92 X K93 A94 => ?_
    have A94 : Ar Z h92 a2 .char [(.int (48 : Int32)), (.int (48 : Int32)), (.int (48 : Int32)), (.int (48 : Int32)), (.int (48 : Int32)), (.int (48 : Int32)), (.int (48 : Int32)), (.int (48 : Int32)), (.int (48 : Int32)), (.int (48 : Int32)), (.int (48 : Int32)), (.int (48 : Int32)), (.int (48 : Int32)), (.int (48 : Int32)), (.int (48 : Int32)), (.int (48 : Int32)), (.int (48 : Int32)), (.int (48 : Int32)), (.int (48 : Int32)), (.int (48 : Int32)), (.int (48 : Int32)), (.int (48 : Int32)), (.int (48 : Int32)), (.int (48 : Int32)), (.int (48 : Int32)), (.int (48 : Int32)), (.int (48 : Int32)), (.int (48 : Int32)), (.int (48 : Int32)), (.int (0 : Int32)), (.int (0 : Int32)), (.int (0 : Int32)), (.int (0 : Int32)), (.int (0 : Int32)), (.int (0 : Int32)), (.int (0 : Int32)), (.int (0 : Int32)), (.int (0 : Int32)), (.int (0 : Int32)), (.int (0 : Int32)), (.int (0 : Int32)), (.int (0 : Int32)), (.int (0 : Int32)), (.int (0 : Int32)), (.int (0 : Int32)), (.int (0 : Int32)), (.int (0 : Int32)), (.int (0 : Int32)), (.int (0 : Int32)), (.int (0 : Int32)), (.int (0 : Int32)), (.int (0 : Int32)), (.int (0 : Int32)), (.int (0 : Int32)), (.int (0 : Int32)), (.int (0 : Int32)), (.int (0 : Int32)), (.int (0 : Int32)), (.int (0 : Int32)), (.int (0 : Int32)), (.int (0 : Int32)), (.int (0 : Int32)), (.int (0 : Int32)), (.int (0 : Int32))] := A94
    refine W.dup (pc' := 177) X d_m4_176 rfl rfl ?_
    refine W.bipush (pc' := 179) X (29 : Int32) d_m4_177 (by decide) rfl ?_
    refine W.bipush (pc' := 181) X (48 : Int32) d_m4_179 (by decide) rfl ?_
    refine W.castore (pc' := 182) (i := 29) X A94 (by decide) rfl (ltb rfl) (show nar .char (48 : Int32) = (48 : Int32) from by decide) g5 nb6 d_m4_181 rfl fun T h95 X K96 A97 => ?_
    have A97 : Ar Z h95 a2 .char [(.int (48 : Int32)), (.int (48 : Int32)), (.int (48 : Int32)), (.int (48 : Int32)), (.int (48 : Int32)), (.int (48 : Int32)), (.int (48 : Int32)), (.int (48 : Int32)), (.int (48 : Int32)), (.int (48 : Int32)), (.int (48 : Int32)), (.int (48 : Int32)), (.int (48 : Int32)), (.int (48 : Int32)), (.int (48 : Int32)), (.int (48 : Int32)), (.int (48 : Int32)), (.int (48 : Int32)), (.int (48 : Int32)), (.int (48 : Int32)), (.int (48 : Int32)), (.int (48 : Int32)), (.int (48 : Int32)), (.int (48 : Int32)), (.int (48 : Int32)), (.int (48 : Int32)), (.int (48 : Int32)), (.int (48 : Int32)), (.int (48 : Int32)), (.int (48 : Int32)), (.int (0 : Int32)), (.int (0 : Int32)), (.int (0 : Int32)), (.int (0 : Int32)), (.int (0 : Int32)), (.int (0 : Int32)), (.int (0 : Int32)), (.int (0 : Int32)), (.int (0 : Int32)), (.int (0 : Int32)), (.int (0 : Int32)), (.int (0 : Int32)), (.int (0 : Int32)), (.int (0 : Int32)), (.int (0 : Int32)), (.int (0 : Int32)), (.int (0 : Int32)), (.int (0 : Int32)), (.int (0 : Int32)), (.int (0 : Int32)), (.int (0 : Int32)), (.int (0 : Int32)), (.int (0 : Int32)), (.int (0 : Int32)), (.int (0 : Int32)), (.int (0 : Int32)), (.int (0 : Int32)), (.int (0 : Int32)), (.int (0 : Int32)), (.int (0 : Int32)), (.int (0 : Int32)), (.int (0 : Int32)), (.int (0 : Int32)), (.int (0 : Int32))] := A97
    refine W.dup (pc' := 183) X d_m4_182 rfl rfl ?_
    refine W.bipush (pc' := 185) X (30 : Int32) d_m4_183 (by decide) rfl ?_
    refine W.bipush (pc' := 187) X (48 : Int32) d_m4_185 (by decide) rfl ?_
    refine W.castore (pc' := 188) (i := 30) X A97 (by decide) rfl (ltb rfl) (show nar .char (48 : Int32) = (48 : Int32) from by decide) g5 nb6 d_m4_187 rfl fun T h98 X K99 A100 => ?_
    have A100 : Ar Z h98 a2 .char [(.int (48 : Int32)), (.int (48 : Int32)), (.int (48 : Int32)), (.int (48 : Int32)), (.int (48 : Int32)), (.int (48 : Int32)), (.int (48 : Int32)), (.int (48 : Int32)), (.int (48 : Int32)), (.int (48 : Int32)), (.int (48 : Int32)), (.int (48 : Int32)), (.int (48 : Int32)), (.int (48 : Int32)), (.int (48 : Int32)), (.int (48 : Int32)), (.int (48 : Int32)), (.int (48 : Int32)), (.int (48 : Int32)), (.int (48 : Int32)), (.int (48 : Int32)), (.int (48 : Int32)), (.int (48 : Int32)), (.int (48 : Int32)), (.int (48 : Int32)), (.int (48 : Int32)), (.int (48 : Int32)), (.int (48 : Int32)), (.int (48 : Int32)), (.int (48 : Int32)), (.int (48 : Int32)), (.int (0 : Int32)), (.int (0 : Int32)), (.int (0 : Int32)), (.int (0 : Int32)), (.int (0 : Int32)), (.int (0 : Int32)), (.int (0 : Int32)), (.int (0 : Int32)), (.int (0 : Int32)), (.int (0 : Int32)), (.int (0 : Int32)), (.int (0 : Int32)), (.int (0 : Int32)), (.int (0 : Int32)), (.int (0 : Int32)), (.int (0 : Int32)), (.int (0 : Int32)), (.int (0 : Int32)), (.int (0 : Int32)), (.int (0 : Int32)), (.int (0 : Int32)), (.int (0 : Int32)), (.int (0 : Int32)), (.int (0 : Int32)), (.int (0 : Int32)), (.int (0 : Int32)), (.int (0 : Int32)), (.int (0 : Int32)), (.int (0 : Int32)), (.int (0 : Int32)), (.int (0 : Int32)), (.int (0 : Int32)), (.int (0 : Int32))] := A100
    refine W.dup (pc' := 189) X d_m4_188 rfl rfl ?_
    refine W.bipush (pc' := 191) X (31 : Int32) d_m4_189 (by decide) rfl ?_
    refine W.bipush (pc' := 193) X (48 : Int32) d_m4_191 (by decide) rfl ?_
    refine W.castore (pc' := 194) (i := 31) X A100 (by decide) rfl (ltb rfl) (show nar .char (48 : Int32) = (48 : Int32) from by decide) g5 nb6 d_m4_193 rfl fun T h101 X K102 A103 => ?_
    have A103 : Ar Z h101 a2 .char [(.int (48 : Int32)), (.int (48 : Int32)), (.int (48 : Int32)), (.int (48 : Int32)), (.int (48 : Int32)), (.int (48 : Int32)), (.int (48 : Int32)), (.int (48 : Int32)), (.int (48 : Int32)), (.int (48 : Int32)), (.int (48 : Int32)), (.int (48 : Int32)), (.int (48 : Int32)), (.int (48 : Int32)), (.int (48 : Int32)), (.int (48 : Int32)), (.int (48 : Int32)), (.int (48 : Int32)), (.int (48 : Int32)), (.int (48 : Int32)), (.int (48 : Int32)), (.int (48 : Int32)), (.int (48 : Int32)), (.int (48 : Int32)), (.int (48 : Int32)), (.int (48 : Int32)), (.int (48 : Int32)), (.int (48 : Int32)), (.int (48 : Int32)), (.int (48 : Int32)), (.int (48 : Int32)), (.int (48 : Int32)), (.int (0 : Int32)), (.int (0 : Int32)), (.int (0 : Int32)), (.int (0 : Int32)), (.int (0 : Int32)), (.int (0 : Int32)), (.int (0 : Int32)), (.int (0 : Int32)), (.int (0 : Int32)), (.int (0 : Int32)), (.int (0 : Int32)), (.int (0 : Int32)), (.int (0 : Int32)), (.int (0 : Int32)), (.int (0 : Int32)), (.int (0 : Int32)), (.int (0 : Int32)), (.int (0 : Int32)), (.int (0 : Int32)), (.int (0 : Int32)), (.int (0 : Int32)), (.int (0 : Int32)), (.int (0 : Int32)), (.int (0 : Int32)), (.int (0 : Int32)), (.int (0 : Int32)), (.int (0 : Int32)), (.int (0 : Int32)), (.int (0 : Int32)), (.int (0 : Int32)), (.int (0 : Int32)), (.int (0 : Int32))] := A103
    refine W.dup (pc' := 195) X d_m4_194 rfl rfl ?_
    refine W.bipush (pc' := 197) X (32 : Int32) d_m4_195 (by decide) rfl ?_
    refine W.bipush (pc' := 199) X (48 : Int32) d_m4_197 (by decide) rfl ?_
    refine W.castore (pc' := 200) (i := 32) X A103 (by decide) rfl (ltb rfl) (show nar .char (48 : Int32) = (48 : Int32) from by decide) g5 nb6 d_m4_199 rfl fun T h104 X K105 A106 => ?_
    have A106 : Ar Z h104 a2 .char [(.int (48 : Int32)), (.int (48 : Int32)), (.int (48 : Int32)), (.int (48 : Int32)), (.int (48 : Int32)), (.int (48 : Int32)), (.int (48 : Int32)), (.int (48 : Int32)), (.int (48 : Int32)), (.int (48 : Int32)), (.int (48 : Int32)), (.int (48 : Int32)), (.int (48 : Int32)), (.int (48 : Int32)), (.int (48 : Int32)), (.int (48 : Int32)), (.int (48 : Int32)), (.int (48 : Int32)), (.int (48 : Int32)), (.int (48 : Int32)), (.int (48 : Int32)), (.int (48 : Int32)), (.int (48 : Int32)), (.int (48 : Int32)), (.int (48 : Int32)), (.int (48 : Int32)), (.int (48 : Int32)), (.int (48 : Int32)), (.int (48 : Int32)), (.int (48 : Int32)), (.int (48 : Int32)), (.int (48 : Int32)), (.int (48 : Int32)), (.int (0 : Int32)), (.int (0 : Int32)), (.int (0 : Int32)), (.int (0 : Int32)), (.int (0 : Int32)), (.int (0 : Int32)), (.int (0 : Int32)), (.int (0 : Int32)), (.int (0 : Int32)), (.int (0 : Int32)), (.int (0 : Int32)), (.int (0 : Int32)), (.int (0 : Int32)), (.int (0 : Int32)), (.int (0 : Int32)), (.int (0 : Int32)), (.int (0 : Int32)), (.int (0 : Int32)), (.int (0 : Int32)), (.int (0 : Int32)), (.int (0 : Int32)), (.int (0 : Int32)), (.int (0 : Int32)), (.int (0 : Int32)), (.int (0 : Int32)), (.int (0 : Int32)), (.int (0 : Int32)), (.int (0 : Int32)), (.int (0 : Int32)), (.int (0 : Int32)), (.int (0 : Int32))] := A106
    refine W.dup (pc' := 201) X d_m4_200 rfl rfl ?_
    refine W.bipush (pc' := 203) X (33 : Int32) d_m4_201 (by decide) rfl ?_
    refine W.bipush (pc' := 205) X (48 : Int32) d_m4_203 (by decide) rfl ?_
    refine W.castore (pc' := 206) (i := 33) X A106 (by decide) rfl (ltb rfl) (show nar .char (48 : Int32) = (48 : Int32) from by decide) g5 nb6 d_m4_205 rfl fun T h107 X K108 A109 => ?_
    have A109 : Ar Z h107 a2 .char [(.int (48 : Int32)), (.int (48 : Int32)), (.int (48 : Int32)), (.int (48 : Int32)), (.int (48 : Int32)), (.int (48 : Int32)), (.int (48 : Int32)), (.int (48 : Int32)), (.int (48 : Int32)), (.int (48 : Int32)), (.int (48 : Int32)), (.int (48 : Int32)), (.int (48 : Int32)), (.int (48 : Int32)), (.int (48 : Int32)), (.int (48 : Int32)), (.int (48 : Int32)), (.int (48 : Int32)), (.int (48 : Int32)), (.int (48 : Int32)), (.int (48 : Int32)), (.int (48 : Int32)), (.int (48 : Int32)), (.int (48 : Int32)), (.int (48 : Int32)), (.int (48 : Int32)), (.int (48 : Int32)), (.int (48 : Int32)), (.int (48 : Int32)), (.int (48 : Int32)), (.int (48 : Int32)), (.int (48 : Int32)), (.int (48 : Int32)), (.int (48 : Int32)), (.int (0 : Int32)), (.int (0 : Int32)), (.int (0 : Int32)), (.int (0 : Int32)), (.int (0 : Int32)), (.int (0 : Int32)), (.int (0 : Int32)), (.int (0 : Int32)), (.int (0 : Int32)), (.int (0 : Int32)), (.int (0 : Int32)), (.int (0 : Int32)), (.int (0 : Int32)), (.int (0 : Int32)), (.int (0 : Int32)), (.int (0 : Int32)), (.int (0 : Int32)), (.int (0 : Int32)), (.int (0 : Int32)), (.int (0 : Int32)), (.int (0 : Int32)), (.int (0 : Int32)), (.int (0 : Int32)), (.int (0 : Int32)), (.int (0 : Int32)), (.int (0 : Int32)), (.int (0 : Int32)), (.int (0 : Int32)), (.int (0 : Int32)), (.int (0 : Int32))] := A109
    refine W.dup (pc' := 207) X d_m4_206 rfl rfl ?_
    refine W.bipush (pc' := 209) X (34 : Int32) d_m4_207 (by decide) rfl ?_
    refine W.bipush (pc' := 211) X (48 : Int32) d_m4_209 (by decide) rfl ?_
    refine W.castore (pc' := 212) (i := 34) X A109 (by decide) rfl (ltb rfl) (show nar .char (48 : Int32) = (48 : Int32) from by decide) g5 nb6 d_m4_211 rfl fun T h110 X K111 A112 => ?_
    have A112 : Ar Z h110 a2 .char [(.int (48 : Int32)), (.int (48 : Int32)), (.int (48 : Int32)), (.int (48 : Int32)), (.int (48 : Int32)), (.int (48 : Int32)), (.int (48 : Int32)), (.int (48 : Int32)), (.int (48 : Int32)), (.int (48 : Int32)), (.int (48 : Int32)), (.int (48 : Int32)), (.int (48 : Int32)), (.int (48 : Int32)), (.int (48 : Int32)), (.int (48 : Int32)), (.int (48 : Int32)), (.int (48 : Int32)), (.int (48 : Int32)), (.int (48 : Int32)), (.int (48 : Int32)), (.int (48 : Int32)), (.int (48 : Int32)), (.int (48 : Int32)), (.int (48 : Int32)), (.int (48 : Int32)), (.int (48 : Int32)), (.int (48 : Int32)), (.int (48 : Int32)), (.int (48 : Int32)), (.int (48 : Int32)), (.int (48 : Int32)), (.int (48 : Int32)), (.int (48 : Int32)), (.int (48 : Int32)), (.int (0 : Int32)), (.int (0 : Int32)), (.int (0 : Int32)), (.int (0 : Int32)), (.int (0 : Int32)), (.int (0 : Int32)), (.int (0 : Int32)), (.int (0 : Int32)), (.int (0 : Int32)), (.int (0 : Int32)), (.int (0 : Int32)), (.int (0 : Int32)), (.int (0 : Int32)), (.int (0 : Int32)), (.int (0 : Int32)), (.int (0 : Int32)), (.int (0 : Int32)), (.int (0 : Int32)), (.int (0 : Int32)), (.int (0 : Int32)), (.int (0 : Int32)), (.int (0 : Int32)), (.int (0 : Int32)), (.int (0 : Int32)), (.int (0 : Int32)), (.int (0 : Int32)), (.int (0 : Int32)), (.int (0 : Int32)), (.int (0 : Int32))] := A112
    refine W.dup (pc' := 213) X d_m4_212 rfl rfl ?_
    refine W.bipush (pc' := 215) X (35 : Int32) d_m4_213 (by decide) rfl ?_
    refine W.bipush (pc' := 217) X (48 : Int32) d_m4_215 (by decide) rfl ?_
    refine W.castore (pc' := 218) (i := 35) X A112 (by decide) rfl (ltb rfl) (show nar .char (48 : Int32) = (48 : Int32) from by decide) g5 nb6 d_m4_217 rfl fun T h113 X K114 A115 => ?_
    have A115 : Ar Z h113 a2 .char [(.int (48 : Int32)), (.int (48 : Int32)), (.int (48 : Int32)), (.int (48 : Int32)), (.int (48 : Int32)), (.int (48 : Int32)), (.int (48 : Int32)), (.int (48 : Int32)), (.int (48 : Int32)), (.int (48 : Int32)), (.int (48 : Int32)), (.int (48 : Int32)), (.int (48 : Int32)), (.int (48 : Int32)), (.int (48 : Int32)), (.int (48 : Int32)), (.int (48 : Int32)), (.int (48 : Int32)), (.int (48 : Int32)), (.int (48 : Int32)), (.int (48 : Int32)), (.int (48 : Int32)), (.int (48 : Int32)), (.int (48 : Int32)), (.int (48 : Int32)), (.int (48 : Int32)), (.int (48 : Int32)), (.int (48 : Int32)), (.int (48 : Int32)), (.int (48 : Int32)), (.int (48 : Int32)), (.int (48 : Int32)), (.int (48 : Int32)), (.int (48 : Int32)), (.int (48 : Int32)), (.int (48 : Int32)), (.int (0 : Int32)), (.int (0 : Int32)), (.int (0 : Int32)), (.int (0 : Int32)), (.int (0 : Int32)), (.int (0 : Int32)), (.int (0 : Int32)), (.int (0 : Int32)), (.int (0 : Int32)), (.int (0 : Int32)), (.int (0 : Int32)), (.int (0 : Int32)), (.int (0 : Int32)), (.int (0 : Int32)), (.int (0 : Int32)), (.int (0 : Int32)), (.int (0 : Int32)), (.int (0 : Int32)), (.int (0 : Int32)), (.int (0 : Int32)), (.int (0 : Int32)), (.int (0 : Int32)), (.int (0 : Int32)), (.int (0 : Int32)), (.int (0 : Int32)), (.int (0 : Int32)), (.int (0 : Int32)), (.int (0 : Int32))] := A115
    refine W.dup (pc' := 219) X d_m4_218 rfl rfl ?_
    refine W.bipush (pc' := 221) X (36 : Int32) d_m4_219 (by decide) rfl ?_
    refine W.bipush (pc' := 223) X (48 : Int32) d_m4_221 (by decide) rfl ?_
    refine W.castore (pc' := 224) (i := 36) X A115 (by decide) rfl (ltb rfl) (show nar .char (48 : Int32) = (48 : Int32) from by decide) g5 nb6 d_m4_223 rfl fun T h116 X K117 A118 => ?_
    have A118 : Ar Z h116 a2 .char [(.int (48 : Int32)), (.int (48 : Int32)), (.int (48 : Int32)), (.int (48 : Int32)), (.int (48 : Int32)), (.int (48 : Int32)), (.int (48 : Int32)), (.int (48 : Int32)), (.int (48 : Int32)), (.int (48 : Int32)), (.int (48 : Int32)), (.int (48 : Int32)), (.int (48 : Int32)), (.int (48 : Int32)), (.int (48 : Int32)), (.int (48 : Int32)), (.int (48 : Int32)), (.int (48 : Int32)), (.int (48 : Int32)), (.int (48 : Int32)), (.int (48 : Int32)), (.int (48 : Int32)), (.int (48 : Int32)), (.int (48 : Int32)), (.int (48 : Int32)), (.int (48 : Int32)), (.int (48 : Int32)), (.int (48 : Int32)), (.int (48 : Int32)), (.int (48 : Int32)), (.int (48 : Int32)), (.int (48 : Int32)), (.int (48 : Int32)), (.int (48 : Int32)), (.int (48 : Int32)), (.int (48 : Int32)), (.int (48 : Int32)), (.int (0 : Int32)), (.int (0 : Int32)), (.int (0 : Int32)), (.int (0 : Int32)), (.int (0 : Int32)), (.int (0 : Int32)), (.int (0 : Int32)), (.int (0 : Int32)), (.int (0 : Int32)), (.int (0 : Int32)), (.int (0 : Int32)), (.int (0 : Int32)), (.int (0 : Int32)), (.int (0 : Int32)), (.int (0 : Int32)), (.int (0 : Int32)), (.int (0 : Int32)), (.int (0 : Int32)), (.int (0 : Int32)), (.int (0 : Int32)), (.int (0 : Int32)), (.int (0 : Int32)), (.int (0 : Int32)), (.int (0 : Int32)), (.int (0 : Int32)), (.int (0 : Int32)), (.int (0 : Int32))] := A118
    refine W.dup (pc' := 225) X d_m4_224 rfl rfl ?_
    refine W.bipush (pc' := 227) X (37 : Int32) d_m4_225 (by decide) rfl ?_
    refine W.bipush (pc' := 229) X (48 : Int32) d_m4_227 (by decide) rfl ?_
    refine W.castore (pc' := 230) (i := 37) X A118 (by decide) rfl (ltb rfl) (show nar .char (48 : Int32) = (48 : Int32) from by decide) g5 nb6 d_m4_229 rfl fun T h119 X K120 A121 => ?_
    have A121 : Ar Z h119 a2 .char [(.int (48 : Int32)), (.int (48 : Int32)), (.int (48 : Int32)), (.int (48 : Int32)), (.int (48 : Int32)), (.int (48 : Int32)), (.int (48 : Int32)), (.int (48 : Int32)), (.int (48 : Int32)), (.int (48 : Int32)), (.int (48 : Int32)), (.int (48 : Int32)), (.int (48 : Int32)), (.int (48 : Int32)), (.int (48 : Int32)), (.int (48 : Int32)), (.int (48 : Int32)), (.int (48 : Int32)), (.int (48 : Int32)), (.int (48 : Int32)), (.int (48 : Int32)), (.int (48 : Int32)), (.int (48 : Int32)), (.int (48 : Int32)), (.int (48 : Int32)), (.int (48 : Int32)), (.int (48 : Int32)), (.int (48 : Int32)), (.int (48 : Int32)), (.int (48 : Int32)), (.int (48 : Int32)), (.int (48 : Int32)), (.int (48 : Int32)), (.int (48 : Int32)), (.int (48 : Int32)), (.int (48 : Int32)), (.int (48 : Int32)), (.int (48 : Int32)), (.int (0 : Int32)), (.int (0 : Int32)), (.int (0 : Int32)), (.int (0 : Int32)), (.int (0 : Int32)), (.int (0 : Int32)), (.int (0 : Int32)), (.int (0 : Int32)), (.int (0 : Int32)), (.int (0 : Int32)), (.int (0 : Int32)), (.int (0 : Int32)), (.int (0 : Int32)), (.int (0 : Int32)), (.int (0 : Int32)), (.int (0 : Int32)), (.int (0 : Int32)), (.int (0 : Int32)), (.int (0 : Int32)), (.int (0 : Int32)), (.int (0 : Int32)), (.int (0 : Int32)), (.int (0 : Int32)), (.int (0 : Int32)), (.int (0 : Int32)), (.int (0 : Int32))] := A121
    refine W.dup (pc' := 231) X d_m4_230 rfl rfl ?_
    refine W.bipush (pc' := 233) X (38 : Int32) d_m4_231 (by decide) rfl ?_
    refine W.bipush (pc' := 235) X (48 : Int32) d_m4_233 (by decide) rfl ?_
    refine W.castore (pc' := 236) (i := 38) X A121 (by decide) rfl (ltb rfl) (show nar .char (48 : Int32) = (48 : Int32) from by decide) g5 nb6 d_m4_235 rfl fun T h122 X K123 A124 => ?_
    have A124 : Ar Z h122 a2 .char [(.int (48 : Int32)), (.int (48 : Int32)), (.int (48 : Int32)), (.int (48 : Int32)), (.int (48 : Int32)), (.int (48 : Int32)), (.int (48 : Int32)), (.int (48 : Int32)), (.int (48 : Int32)), (.int (48 : Int32)), (.int (48 : Int32)), (.int (48 : Int32)), (.int (48 : Int32)), (.int (48 : Int32)), (.int (48 : Int32)), (.int (48 : Int32)), (.int (48 : Int32)), (.int (48 : Int32)), (.int (48 : Int32)), (.int (48 : Int32)), (.int (48 : Int32)), (.int (48 : Int32)), (.int (48 : Int32)), (.int (48 : Int32)), (.int (48 : Int32)), (.int (48 : Int32)), (.int (48 : Int32)), (.int (48 : Int32)), (.int (48 : Int32)), (.int (48 : Int32)), (.int (48 : Int32)), (.int (48 : Int32)), (.int (48 : Int32)), (.int (48 : Int32)), (.int (48 : Int32)), (.int (48 : Int32)), (.int (48 : Int32)), (.int (48 : Int32)), (.int (48 : Int32)), (.int (0 : Int32)), (.int (0 : Int32)), (.int (0 : Int32)), (.int (0 : Int32)), (.int (0 : Int32)), (.int (0 : Int32)), (.int (0 : Int32)), (.int (0 : Int32)), (.int (0 : Int32)), (.int (0 : Int32)), (.int (0 : Int32)), (.int (0 : Int32)), (.int (0 : Int32)), (.int (0 : Int32)), (.int (0 : Int32)), (.int (0 : Int32)), (.int (0 : Int32)), (.int (0 : Int32)), (.int (0 : Int32)), (.int (0 : Int32)), (.int (0 : Int32)), (.int (0 : Int32)), (.int (0 : Int32)), (.int (0 : Int32)), (.int (0 : Int32))] := A124
    refine W.dup (pc' := 237) X d_m4_236 rfl rfl ?_
    refine W.bipush (pc' := 239) X (39 : Int32) d_m4_237 (by decide) rfl ?_
    refine W.bipush (pc' := 241) X (48 : Int32) d_m4_239 (by decide) rfl ?_
    refine W.castore (pc' := 242) (i := 39) X A124 (by decide) rfl (ltb rfl) (show nar .char (48 : Int32) = (48 : Int32) from by decide) g5 nb6 d_m4_241 rfl fun T h125 X K126 A127 => ?_
    have A127 : Ar Z h125 a2 .char [(.int (48 : Int32)), (.int (48 : Int32)), (.int (48 : Int32)), (.int (48 : Int32)), (.int (48 : Int32)), (.int (48 : Int32)), (.int (48 : Int32)), (.int (48 : Int32)), (.int (48 : Int32)), (.int (48 : Int32)), (.int (48 : Int32)), (.int (48 : Int32)), (.int (48 : Int32)), (.int (48 : Int32)), (.int (48 : Int32)), (.int (48 : Int32)), (.int (48 : Int32)), (.int (48 : Int32)), (.int (48 : Int32)), (.int (48 : Int32)), (.int (48 : Int32)), (.int (48 : Int32)), (.int (48 : Int32)), (.int (48 : Int32)), (.int (48 : Int32)), (.int (48 : Int32)), (.int (48 : Int32)), (.int (48 : Int32)), (.int (48 : Int32)), (.int (48 : Int32)), (.int (48 : Int32)), (.int (48 : Int32)), (.int (48 : Int32)), (.int (48 : Int32)), (.int (48 : Int32)), (.int (48 : Int32)), (.int (48 : Int32)), (.int (48 : Int32)), (.int (48 : Int32)), (.int (48 : Int32)), (.int (0 : Int32)), (.int (0 : Int32)), (.int (0 : Int32)), (.int (0 : Int32)), (.int (0 : Int32)), (.int (0 : Int32)), (.int (0 : Int32)), (.int (0 : Int32)), (.int (0 : Int32)), (.int (0 : Int32)), (.int (0 : Int32)), (.int (0 : Int32)), (.int (0 : Int32)), (.int (0 : Int32)), (.int (0 : Int32)), (.int (0 : Int32)), (.int (0 : Int32)), (.int (0 : Int32)), (.int (0 : Int32)), (.int (0 : Int32)), (.int (0 : Int32)), (.int (0 : Int32)), (.int (0 : Int32)), (.int (0 : Int32))] := A127
    refine W.dup (pc' := 243) X d_m4_242 rfl rfl ?_
    refine W.bipush (pc' := 245) X (40 : Int32) d_m4_243 (by decide) rfl ?_
    refine W.bipush (pc' := 247) X (48 : Int32) d_m4_245 (by decide) rfl ?_
    refine W.castore (pc' := 248) (i := 40) X A127 (by decide) rfl (ltb rfl) (show nar .char (48 : Int32) = (48 : Int32) from by decide) g5 nb6 d_m4_247 rfl fun T h128 X K129 A130 => ?_
    have A130 : Ar Z h128 a2 .char [(.int (48 : Int32)), (.int (48 : Int32)), (.int (48 : Int32)), (.int (48 : Int32)), (.int (48 : Int32)), (.int (48 : Int32)), (.int (48 : Int32)), (.int (48 : Int32)), (.int (48 : Int32)), (.int (48 : Int32)), (.int (48 : Int32)), (.int (48 : Int32)), (.int (48 : Int32)), (.int (48 : Int32)), (.int (48 : Int32)), (.int (48 : Int32)), (.int (48 : Int32)), (.int (48 : Int32)), (.int (48 : Int32)), (.int (48 : Int32)), (.int (48 : Int32)), (.int (48 : Int32)), (.int (48 : Int32)), (.int (48 : Int32)), (.int (48 : Int32)), (.int (48 : Int32)), (.int (48 : Int32)), (.int (48 : Int32)), (.int (48 : Int32)), (.int (48 : Int32)), (.int (48 : Int32)), (.int (48 : Int32)), (.int (48 : Int32)), (.int (48 : Int32)), (.int (48 : Int32)), (.int (48 : Int32)), (.int (48 : Int32)), (.int (48 : Int32)), (.int (48 : Int32)), (.int (48 : Int32)), (.int (48 : Int32)), (.int (0 : Int32)), (.int (0 : Int32)), (.int (0 : Int32)), (.int (0 : Int32)), (.int (0 : Int32)), (.int (0 : Int32)), (.int (0 : Int32)), (.int (0 : Int32)), (.int (0 : Int32)), (.int (0 : Int32)), (.int (0 : Int32)), (.int (0 : Int32)), (.int (0 : Int32)), (.int (0 : Int32)), (.int (0 : Int32)), (.int (0 : Int32)), (.int (0 : Int32)), (.int (0 : Int32)), (.int (0 : Int32)), (.int (0 : Int32)), (.int (0 : Int32)), (.int (0 : Int32)), (.int (0 : Int32))] := A130
    refine W.dup (pc' := 249) X d_m4_248 rfl rfl ?_
    refine W.bipush (pc' := 251) X (41 : Int32) d_m4_249 (by decide) rfl ?_
    refine W.bipush (pc' := 253) X (48 : Int32) d_m4_251 (by decide) rfl ?_
    refine W.castore (pc' := 254) (i := 41) X A130 (by decide) rfl (ltb rfl) (show nar .char (48 : Int32) = (48 : Int32) from by decide) g5 nb6 d_m4_253 rfl fun T h131 X K132 A133 => ?_
    have A133 : Ar Z h131 a2 .char [(.int (48 : Int32)), (.int (48 : Int32)), (.int (48 : Int32)), (.int (48 : Int32)), (.int (48 : Int32)), (.int (48 : Int32)), (.int (48 : Int32)), (.int (48 : Int32)), (.int (48 : Int32)), (.int (48 : Int32)), (.int (48 : Int32)), (.int (48 : Int32)), (.int (48 : Int32)), (.int (48 : Int32)), (.int (48 : Int32)), (.int (48 : Int32)), (.int (48 : Int32)), (.int (48 : Int32)), (.int (48 : Int32)), (.int (48 : Int32)), (.int (48 : Int32)), (.int (48 : Int32)), (.int (48 : Int32)), (.int (48 : Int32)), (.int (48 : Int32)), (.int (48 : Int32)), (.int (48 : Int32)), (.int (48 : Int32)), (.int (48 : Int32)), (.int (48 : Int32)), (.int (48 : Int32)), (.int (48 : Int32)), (.int (48 : Int32)), (.int (48 : Int32)), (.int (48 : Int32)), (.int (48 : Int32)), (.int (48 : Int32)), (.int (48 : Int32)), (.int (48 : Int32)), (.int (48 : Int32)), (.int (48 : Int32)), (.int (48 : Int32)), (.int (0 : Int32)), (.int (0 : Int32)), (.int (0 : Int32)), (.int (0 : Int32)), (.int (0 : Int32)), (.int (0 : Int32)), (.int (0 : Int32)), (.int (0 : Int32)), (.int (0 : Int32)), (.int (0 : Int32)), (.int (0 : Int32)), (.int (0 : Int32)), (.int (0 : Int32)), (.int (0 : Int32)), (.int (0 : Int32)), (.int (0 : Int32)), (.int (0 : Int32)), (.int (0 : Int32)), (.int (0 : Int32)), (.int (0 : Int32)), (.int (0 : Int32)), (.int (0 : Int32))] := A133
    refine W.dup (pc' := 255) X d_m4_254 rfl rfl ?_
    refine W.bipush (pc' := 257) X (42 : Int32) d_m4_255 (by decide) rfl ?_
    refine W.bipush (pc' := 259) X (48 : Int32) d_m4_257 (by decide) rfl ?_
    refine W.castore (pc' := 260) (i := 42) X A133 (by decide) rfl (ltb rfl) (show nar .char (48 : Int32) = (48 : Int32) from by decide) g5 nb6 d_m4_259 rfl fun T h134 X K135 A136 => ?_
    have A136 : Ar Z h134 a2 .char [(.int (48 : Int32)), (.int (48 : Int32)), (.int (48 : Int32)), (.int (48 : Int32)), (.int (48 : Int32)), (.int (48 : Int32)), (.int (48 : Int32)), (.int (48 : Int32)), (.int (48 : Int32)), (.int (48 : Int32)), (.int (48 : Int32)), (.int (48 : Int32)), (.int (48 : Int32)), (.int (48 : Int32)), (.int (48 : Int32)), (.int (48 : Int32)), (.int (48 : Int32)), (.int (48 : Int32)), (.int (48 : Int32)), (.int (48 : Int32)), (.int (48 : Int32)), (.int (48 : Int32)), (.int (48 : Int32)), (.int (48 : Int32)), (.int (48 : Int32)), (.int (48 : Int32)), (.int (48 : Int32)), (.int (48 : Int32)), (.int (48 : Int32)), (.int (48 : Int32)), (.int (48 : Int32)), (.int (48 : Int32)), (.int (48 : Int32)), (.int (48 : Int32)), (.int (48 : Int32)), (.int (48 : Int32)), (.int (48 : Int32)), (.int (48 : Int32)), (.int (48 : Int32)), (.int (48 : Int32)), (.int (48 : Int32)), (.int (48 : Int32)), (.int (48 : Int32)), (.int (0 : Int32)), (.int (0 : Int32)), (.int (0 : Int32)), (.int (0 : Int32)), (.int (0 : Int32)), (.int (0 : Int32)), (.int (0 : Int32)), (.int (0 : Int32)), (.int (0 : Int32)), (.int (0 : Int32)), (.int (0 : Int32)), (.int (0 : Int32)), (.int (0 : Int32)), (.int (0 : Int32)), (.int (0 : Int32)), (.int (0 : Int32)), (.int (0 : Int32)), (.int (0 : Int32)), (.int (0 : Int32)), (.int (0 : Int32)), (.int (0 : Int32))] := A136
    refine W.dup (pc' := 261) X d_m4_260 rfl rfl ?_
    refine W.bipush (pc' := 263) X (43 : Int32) d_m4_261 (by decide) rfl ?_
    refine W.bipush (pc' := 265) X (48 : Int32) d_m4_263 (by decide) rfl ?_
    refine W.castore (pc' := 266) (i := 43) X A136 (by decide) rfl (ltb rfl) (show nar .char (48 : Int32) = (48 : Int32) from by decide) g5 nb6 d_m4_265 rfl fun T h137 X K138 A139 => ?_
    have A139 : Ar Z h137 a2 .char [(.int (48 : Int32)), (.int (48 : Int32)), (.int (48 : Int32)), (.int (48 : Int32)), (.int (48 : Int32)), (.int (48 : Int32)), (.int (48 : Int32)), (.int (48 : Int32)), (.int (48 : Int32)), (.int (48 : Int32)), (.int (48 : Int32)), (.int (48 : Int32)), (.int (48 : Int32)), (.int (48 : Int32)), (.int (48 : Int32)), (.int (48 : Int32)), (.int (48 : Int32)), (.int (48 : Int32)), (.int (48 : Int32)), (.int (48 : Int32)), (.int (48 : Int32)), (.int (48 : Int32)), (.int (48 : Int32)), (.int (48 : Int32)), (.int (48 : Int32)), (.int (48 : Int32)), (.int (48 : Int32)), (.int (48 : Int32)), (.int (48 : Int32)), (.int (48 : Int32)), (.int (48 : Int32)), (.int (48 : Int32)), (.int (48 : Int32)), (.int (48 : Int32)), (.int (48 : Int32)), (.int (48 : Int32)), (.int (48 : Int32)), (.int (48 : Int32)), (.int (48 : Int32)), (.int (48 : Int32)), (.int (48 : Int32)), (.int (48 : Int32)), (.int (48 : Int32)), (.int (48 : Int32)), (.int (0 : Int32)), (.int (0 : Int32)), (.int (0 : Int32)), (.int (0 : Int32)), (.int (0 : Int32)), (.int (0 : Int32)), (.int (0 : Int32)), (.int (0 : Int32)), (.int (0 : Int32)), (.int (0 : Int32)), (.int (0 : Int32)), (.int (0 : Int32)), (.int (0 : Int32)), (.int (0 : Int32)), (.int (0 : Int32)), (.int (0 : Int32)), (.int (0 : Int32)), (.int (0 : Int32)), (.int (0 : Int32)), (.int (0 : Int32))] := A139
    refine W.dup (pc' := 267) X d_m4_266 rfl rfl ?_
    refine W.bipush (pc' := 269) X (44 : Int32) d_m4_267 (by decide) rfl ?_
    refine W.bipush (pc' := 271) X (48 : Int32) d_m4_269 (by decide) rfl ?_
    refine W.castore (pc' := 272) (i := 44) X A139 (by decide) rfl (ltb rfl) (show nar .char (48 : Int32) = (48 : Int32) from by decide) g5 nb6 d_m4_271 rfl fun T h140 X K141 A142 => ?_
    have A142 : Ar Z h140 a2 .char [(.int (48 : Int32)), (.int (48 : Int32)), (.int (48 : Int32)), (.int (48 : Int32)), (.int (48 : Int32)), (.int (48 : Int32)), (.int (48 : Int32)), (.int (48 : Int32)), (.int (48 : Int32)), (.int (48 : Int32)), (.int (48 : Int32)), (.int (48 : Int32)), (.int (48 : Int32)), (.int (48 : Int32)), (.int (48 : Int32)), (.int (48 : Int32)), (.int (48 : Int32)), (.int (48 : Int32)), (.int (48 : Int32)), (.int (48 : Int32)), (.int (48 : Int32)), (.int (48 : Int32)), (.int (48 : Int32)), (.int (48 : Int32)), (.int (48 : Int32)), (.int (48 : Int32)), (.int (48 : Int32)), (.int (48 : Int32)), (.int (48 : Int32)), (.int (48 : Int32)), (.int (48 : Int32)), (.int (48 : Int32)), (.int (48 : Int32)), (.int (48 : Int32)), (.int (48 : Int32)), (.int (48 : Int32)), (.int (48 : Int32)), (.int (48 : Int32)), (.int (48 : Int32)), (.int (48 : Int32)), (.int (48 : Int32)), (.int (48 : Int32)), (.int (48 : Int32)), (.int (48 : Int32)), (.int (48 : Int32)), (.int (0 : Int32)), (.int (0 : Int32)), (.int (0 : Int32)), (.int (0 : Int32)), (.int (0 : Int32)), (.int (0 : Int32)), (.int (0 : Int32)), (.int (0 : Int32)), (.int (0 : Int32)), (.int (0 : Int32)), (.int (0 : Int32)), (.int (0 : Int32)), (.int (0 : Int32)), (.int (0 : Int32)), (.int (0 : Int32)), (.int (0 : Int32)), (.int (0 : Int32)), (.int (0 : Int32)), (.int (0 : Int32))] := A142
    refine W.dup (pc' := 273) X d_m4_272 rfl rfl ?_
    refine W.bipush (pc' := 275) X (45 : Int32) d_m4_273 (by decide) rfl ?_
    refine W.bipush (pc' := 277) X (48 : Int32) d_m4_275 (by decide) rfl ?_
    refine W.castore (pc' := 278) (i := 45) X A142 (by decide) rfl (ltb rfl) (show nar .char (48 : Int32) = (48 : Int32) from by decide) g5 nb6 d_m4_277 rfl fun T h143 X K144 A145 => ?_
    have A145 : Ar Z h143 a2 .char [(.int (48 : Int32)), (.int (48 : Int32)), (.int (48 : Int32)), (.int (48 : Int32)), (.int (48 : Int32)), (.int (48 : Int32)), (.int (48 : Int32)), (.int (48 : Int32)), (.int (48 : Int32)), (.int (48 : Int32)), (.int (48 : Int32)), (.int (48 : Int32)), (.int (48 : Int32)), (.int (48 : Int32)), (.int (48 : Int32)), (.int (48 : Int32)), (.int (48 : Int32)), (.int (48 : Int32)), (.int (48 : Int32)), (.int (48 : Int32)), (.int (48 : Int32)), (.int (48 : Int32)), (.int (48 : Int32)), (.int (48 : Int32)), (.int (48 : Int32)), (.int (48 : Int32)), (.int (48 : Int32)), (.int (48 : Int32)), (.int (48 : Int32)), (.int (48 : Int32)), (.int (48 : Int32)), (.int (48 : Int32)), (.int (48 : Int32)), (.int (48 : Int32)), (.int (48 : Int32)), (.int (48 : Int32)), (.int (48 : Int32)), (.int (48 : Int32)), (.int (48 : Int32)), (.int (48 : Int32)), (.int (48 : Int32)), (.int (48 : Int32)), (.int (48 : Int32)), (.int (48 : Int32)), (.int (48 : Int32)), (.int (48 : Int32)), (.int (0 : Int32)), (.int (0 : Int32)), (.int (0 : Int32)), (.int (0 : Int32)), (.int (0 : Int32)), (.int (0 : Int32)), (.int (0 : Int32)), (.int (0 : Int32)), (.int (0 : Int32)), (.int (0 : Int32)), (.int (0 : Int32)), (.int (0 : Int32)), (.int (0 : Int32)), (.int (0 : Int32)), (.int (0 : Int32)), (.int (0 : Int32)), (.int (0 : Int32)), (.int (0 : Int32))] := A145
    refine W.dup (pc' := 279) X d_m4_278 rfl rfl ?_
    refine W.bipush (pc' := 281) X (46 : Int32) d_m4_279 (by decide) rfl ?_
    refine W.bipush (pc' := 283) X (48 : Int32) d_m4_281 (by decide) rfl ?_
    refine W.castore (pc' := 284) (i := 46) X A145 (by decide) rfl (ltb rfl) (show nar .char (48 : Int32) = (48 : Int32) from by decide) g5 nb6 d_m4_283 rfl fun T h146 X K147 A148 => ?_
    have A148 : Ar Z h146 a2 .char [(.int (48 : Int32)), (.int (48 : Int32)), (.int (48 : Int32)), (.int (48 : Int32)), (.int (48 : Int32)), (.int (48 : Int32)), (.int (48 : Int32)), (.int (48 : Int32)), (.int (48 : Int32)), (.int (48 : Int32)), (.int (48 : Int32)), (.int (48 : Int32)), (.int (48 : Int32)), (.int (48 : Int32)), (.int (48 : Int32)), (.int (48 : Int32)), (.int (48 : Int32)), (.int (48 : Int32)), (.int (48 : Int32)), (.int (48 : Int32)), (.int (48 : Int32)), (.int (48 : Int32)), (.int (48 : Int32)), (.int (48 : Int32)), (.int (48 : Int32)), (.int (48 : Int32)), (.int (48 : Int32)), (.int (48 : Int32)), (.int (48 : Int32)), (.int (48 : Int32)), (.int (48 : Int32)), (.int (48 : Int32)), (.int (48 : Int32)), (.int (48 : Int32)), (.int (48 : Int32)), (.int (48 : Int32)), (.int (48 : Int32)), (.int (48 : Int32)), (.int (48 : Int32)), (.int (48 : Int32)), (.int (48 : Int32)), (.int (48 : Int32)), (.int (48 : Int32)), (.int (48 : Int32)), (.int (48 : Int32)), (.int (48 : Int32)), (.int (48 : Int32)), (.int (0 : Int32)), (.int (0 : Int32)), (.int (0 : Int32)), (.int (0 : Int32)), (.int (0 : Int32)), (.int (0 : Int32)), (.int (0 : Int32)), (.int (0 : Int32)), (.int (0 : Int32)), (.int (0 : Int32)), (.int (0 : Int32)), (.int (0 : Int32)), (.int (0 : Int32)), (.int (0 : Int32)), (.int (0 : Int32)), (.int (0 : Int32)), (.int (0 : Int32))] := A148
    refine W.dup (pc' := 285) X d_m4_284 rfl rfl ?_
    refine W.bipush (pc' := 287) X (47 : Int32) d_m4_285 (by decide) rfl ?_
    refine W.bipush (pc' := 289) X (48 : Int32) d_m4_287 (by decide) rfl ?_
    refine W.castore (pc' := 290) (i := 47) X A148 (by decide) rfl (ltb rfl) (show nar .char (48 : Int32) = (48 : Int32) from by decide) g5 nb6 d_m4_289 rfl fun T h149 X K150 A151 => ?_
    have A151 : Ar Z h149 a2 .char [(.int (48 : Int32)), (.int (48 : Int32)), (.int (48 : Int32)), (.int (48 : Int32)), (.int (48 : Int32)), (.int (48 : Int32)), (.int (48 : Int32)), (.int (48 : Int32)), (.int (48 : Int32)), (.int (48 : Int32)), (.int (48 : Int32)), (.int (48 : Int32)), (.int (48 : Int32)), (.int (48 : Int32)), (.int (48 : Int32)), (.int (48 : Int32)), (.int (48 : Int32)), (.int (48 : Int32)), (.int (48 : Int32)), (.int (48 : Int32)), (.int (48 : Int32)), (.int (48 : Int32)), (.int (48 : Int32)), (.int (48 : Int32)), (.int (48 : Int32)), (.int (48 : Int32)), (.int (48 : Int32)), (.int (48 : Int32)), (.int (48 : Int32)), (.int (48 : Int32)), (.int (48 : Int32)), (.int (48 : Int32)), (.int (48 : Int32)), (.int (48 : Int32)), (.int (48 : Int32)), (.int (48 : Int32)), (.int (48 : Int32)), (.int (48 : Int32)), (.int (48 : Int32)), (.int (48 : Int32)), (.int (48 : Int32)), (.int (48 : Int32)), (.int (48 : Int32)), (.int (48 : Int32)), (.int (48 : Int32)), (.int (48 : Int32)), (.int (48 : Int32)), (.int (48 : Int32)), (.int (0 : Int32)), (.int (0 : Int32)), (.int (0 : Int32)), (.int (0 : Int32)), (.int (0 : Int32)), (.int (0 : Int32)), (.int (0 : Int32)), (.int (0 : Int32)), (.int (0 : Int32)), (.int (0 : Int32)), (.int (0 : Int32)), (.int (0 : Int32)), (.int (0 : Int32)), (.int (0 : Int32)), (.int (0 : Int32)), (.int (0 : Int32))] := A151
    refine W.dup (pc' := 291) X d_m4_290 rfl rfl ?_
    refine W.bipush (pc' := 293) X (48 : Int32) d_m4_291 (by decide) rfl ?_
    refine W.bipush (pc' := 295) X (48 : Int32) d_m4_293 (by decide) rfl ?_
    refine W.castore (pc' := 296) (i := 48) X A151 (by decide) rfl (ltb rfl) (show nar .char (48 : Int32) = (48 : Int32) from by decide) g5 nb6 d_m4_295 rfl fun T h152 X K153 A154 => ?_
    have A154 : Ar Z h152 a2 .char [(.int (48 : Int32)), (.int (48 : Int32)), (.int (48 : Int32)), (.int (48 : Int32)), (.int (48 : Int32)), (.int (48 : Int32)), (.int (48 : Int32)), (.int (48 : Int32)), (.int (48 : Int32)), (.int (48 : Int32)), (.int (48 : Int32)), (.int (48 : Int32)), (.int (48 : Int32)), (.int (48 : Int32)), (.int (48 : Int32)), (.int (48 : Int32)), (.int (48 : Int32)), (.int (48 : Int32)), (.int (48 : Int32)), (.int (48 : Int32)), (.int (48 : Int32)), (.int (48 : Int32)), (.int (48 : Int32)), (.int (48 : Int32)), (.int (48 : Int32)), (.int (48 : Int32)), (.int (48 : Int32)), (.int (48 : Int32)), (.int (48 : Int32)), (.int (48 : Int32)), (.int (48 : Int32)), (.int (48 : Int32)), (.int (48 : Int32)), (.int (48 : Int32)), (.int (48 : Int32)), (.int (48 : Int32)), (.int (48 : Int32)), (.int (48 : Int32)), (.int (48 : Int32)), (.int (48 : Int32)), (.int (48 : Int32)), (.int (48 : Int32)), (.int (48 : Int32)), (.int (48 : Int32)), (.int (48 : Int32)), (.int (48 : Int32)), (.int (48 : Int32)), (.int (48 : Int32)), (.int (48 : Int32)), (.int (0 : Int32)), (.int (0 : Int32)), (.int (0 : Int32)), (.int (0 : Int32)), (.int (0 : Int32)), (.int (0 : Int32)), (.int (0 : Int32)), (.int (0 : Int32)), (.int (0 : Int32)), (.int (0 : Int32)), (.int (0 : Int32)), (.int (0 : Int32)), (.int (0 : Int32)), (.int (0 : Int32)), (.int (0 : Int32))] := A154
    refine W.dup (pc' := 297) X d_m4_296 rfl rfl ?_
    refine W.bipush (pc' := 299) X (49 : Int32) d_m4_297 (by decide) rfl ?_
    refine W.bipush (pc' := 301) X (48 : Int32) d_m4_299 (by decide) rfl ?_
    refine W.castore (pc' := 302) (i := 49) X A154 (by decide) rfl (ltb rfl) (show nar .char (48 : Int32) = (48 : Int32) from by decide) g5 nb6 d_m4_301 rfl fun T h155 X K156 A157 => ?_
    have A157 : Ar Z h155 a2 .char [(.int (48 : Int32)), (.int (48 : Int32)), (.int (48 : Int32)), (.int (48 : Int32)), (.int (48 : Int32)), (.int (48 : Int32)), (.int (48 : Int32)), (.int (48 : Int32)), (.int (48 : Int32)), (.int (48 : Int32)), (.int (48 : Int32)), (.int (48 : Int32)), (.int (48 : Int32)), (.int (48 : Int32)), (.int (48 : Int32)), (.int (48 : Int32)), (.int (48 : Int32)), (.int (48 : Int32)), (.int (48 : Int32)), (.int (48 : Int32)), (.int (48 : Int32)), (.int (48 : Int32)), (.int (48 : Int32)), (.int (48 : Int32)), (.int (48 : Int32)), (.int (48 : Int32)), (.int (48 : Int32)), (.int (48 : Int32)), (.int (48 : Int32)), (.int (48 : Int32)), (.int (48 : Int32)), (.int (48 : Int32)), (.int (48 : Int32)), (.int (48 : Int32)), (.int (48 : Int32)), (.int (48 : Int32)), (.int (48 : Int32)), (.int (48 : Int32)), (.int (48 : Int32)), (.int (48 : Int32)), (.int (48 : Int32)), (.int (48 : Int32)), (.int (48 : Int32)), (.int (48 : Int32)), (.int (48 : Int32)), (.int (48 : Int32)), (.int (48 : Int32)), (.int (48 : Int32)), (.int (48 : Int32)), (.int (48 : Int32)), (.int (0 : Int32)), (.int (0 : Int32)), (.int (0 : Int32)), (.int (0 : Int32)), (.int (0 : Int32)), (.int (0 : Int32)), (.int (0 : Int32)), (.int (0 : Int32)), (.int (0 : Int32)), (.int (0 : Int32)), (.int (0 : Int32)), (.int (0 : Int32)), (.int (0 : Int32)), (.int (0 : Int32))] := A157
    refine W.dup (pc' := 303) X d_m4_302 rfl rfl ?_
    refine W.bipush (pc' := 305) X (50 : Int32) d_m4_303 (by decide) rfl ?_
    refine W.bipush (pc' := 307) X (48 : Int32) d_m4_305 (by decide) rfl ?_
    refine W.castore (pc' := 308) (i := 50) X A157 (by decide) rfl (ltb rfl) (show nar .char (48 : Int32) = (48 : Int32) from by decide) g5 nb6 d_m4_307 rfl fun T h158 X K159 A160 => ?_
    have A160 : Ar Z h158 a2 .char [(.int (48 : Int32)), (.int (48 : Int32)), (.int (48 : Int32)), (.int (48 : Int32)), (.int (48 : Int32)), (.int (48 : Int32)), (.int (48 : Int32)), (.int (48 : Int32)), (.int (48 : Int32)), (.int (48 : Int32)), (.int (48 : Int32)), (.int (48 : Int32)), (.int (48 : Int32)), (.int (48 : Int32)), (.int (48 : Int32)), (.int (48 : Int32)), (.int (48 : Int32)), (.int (48 : Int32)), (.int (48 : Int32)), (.int (48 : Int32)), (.int (48 : Int32)), (.int (48 : Int32)), (.int (48 : Int32)), (.int (48 : Int32)), (.int (48 : Int32)), (.int (48 : Int32)), (.int (48 : Int32)), (.int (48 : Int32)), (.int (48 : Int32)), (.int (48 : Int32)), (.int (48 : Int32)), (.int (48 : Int32)), (.int (48 : Int32)), (.int (48 : Int32)), (.int (48 : Int32)), (.int (48 : Int32)), (.int (48 : Int32)), (.int (48 : Int32)), (.int (48 : Int32)), (.int (48 : Int32)), (.int (48 : Int32)), (.int (48 : Int32)), (.int (48 : Int32)), (.int (48 : Int32)), (.int (48 : Int32)), (.int (48 : Int32)), (.int (48 : Int32)), (.int (48 : Int32)), (.int (48 : Int32)), (.int (48 : Int32)), (.int (48 : Int32)), (.int (0 : Int32)), (.int (0 : Int32)), (.int (0 : Int32)), (.int (0 : Int32)), (.int (0 : Int32)), (.int (0 : Int32)), (.int (0 : Int32)), (.int (0 : Int32)), (.int (0 : Int32)), (.int (0 : Int32)), (.int (0 : Int32)), (.int (0 : Int32)), (.int (0 : Int32))] := A160
    refine W.dup (pc' := 309) X d_m4_308 rfl rfl ?_
    refine W.bipush (pc' := 311) X (51 : Int32) d_m4_309 (by decide) rfl ?_
    refine W.bipush (pc' := 313) X (48 : Int32) d_m4_311 (by decide) rfl ?_
    refine W.castore (pc' := 314) (i := 51) X A160 (by decide) rfl (ltb rfl) (show nar .char (48 : Int32) = (48 : Int32) from by decide) g5 nb6 d_m4_313 rfl fun T h161 X K162 A163 => ?_
    have A163 : Ar Z h161 a2 .char [(.int (48 : Int32)), (.int (48 : Int32)), (.int (48 : Int32)), (.int (48 : Int32)), (.int (48 : Int32)), (.int (48 : Int32)), (.int (48 : Int32)), (.int (48 : Int32)), (.int (48 : Int32)), (.int (48 : Int32)), (.int (48 : Int32)), (.int (48 : Int32)), (.int (48 : Int32)), (.int (48 : Int32)), (.int (48 : Int32)), (.int (48 : Int32)), (.int (48 : Int32)), (.int (48 : Int32)), (.int (48 : Int32)), (.int (48 : Int32)), (.int (48 : Int32)), (.int (48 : Int32)), (.int (48 : Int32)), (.int (48 : Int32)), (.int (48 : Int32)), (.int (48 : Int32)), (.int (48 : Int32)), (.int (48 : Int32)), (.int (48 : Int32)), (.int (48 : Int32)), (.int (48 : Int32)), (.int (48 : Int32)), (.int (48 : Int32)), (.int (48 : Int32)), (.int (48 : Int32)), (.int (48 : Int32)), (.int (48 : Int32)), (.int (48 : Int32)), (.int (48 : Int32)), (.int (48 : Int32)), (.int (48 : Int32)), (.int (48 : Int32)), (.int (48 : Int32)), (.int (48 : Int32)), (.int (48 : Int32)), (.int (48 : Int32)), (.int (48 : Int32)), (.int (48 : Int32)), (.int (48 : Int32)), (.int (48 : Int32)), (.int (48 : Int32)), (.int (48 : Int32)), (.int (0 : Int32)), (.int (0 : Int32)), (.int (0 : Int32)), (.int (0 : Int32)), (.int (0 : Int32)), (.int (0 : Int32)), (.int (0 : Int32)), (.int (0 : Int32)), (.int (0 : Int32)), (.int (0 : Int32)), (.int (0 : Int32)), (.int (0 : Int32))] := A163
    refine W.dup (pc' := 315) X d_m4_314 rfl rfl ?_
    refine W.bipush (pc' := 317) X (52 : Int32) d_m4_315 (by decide) rfl ?_
    refine W.bipush (pc' := 319) X (48 : Int32) d_m4_317 (by decide) rfl ?_
    refine W.castore (pc' := 320) (i := 52) X A163 (by decide) rfl (ltb rfl) (show nar .char (48 : Int32) = (48 : Int32) from by decide) g5 nb6 d_m4_319 rfl fun T h164 X K165 A166 => ?_
    have A166 : Ar Z h164 a2 .char [(.int (48 : Int32)), (.int (48 : Int32)), (.int (48 : Int32)), (.int (48 : Int32)), (.int (48 : Int32)), (.int (48 : Int32)), (.int (48 : Int32)), (.int (48 : Int32)), (.int (48 : Int32)), (.int (48 : Int32)), (.int (48 : Int32)), (.int (48 : Int32)), (.int (48 : Int32)), (.int (48 : Int32)), (.int (48 : Int32)), (.int (48 : Int32)), (.int (48 : Int32)), (.int (48 : Int32)), (.int (48 : Int32)), (.int (48 : Int32)), (.int (48 : Int32)), (.int (48 : Int32)), (.int (48 : Int32)), (.int (48 : Int32)), (.int (48 : Int32)), (.int (48 : Int32)), (.int (48 : Int32)), (.int (48 : Int32)), (.int (48 : Int32)), (.int (48 : Int32)), (.int (48 : Int32)), (.int (48 : Int32)), (.int (48 : Int32)), (.int (48 : Int32)), (.int (48 : Int32)), (.int (48 : Int32)), (.int (48 : Int32)), (.int (48 : Int32)), (.int (48 : Int32)), (.int (48 : Int32)), (.int (48 : Int32)), (.int (48 : Int32)), (.int (48 : Int32)), (.int (48 : Int32)), (.int (48 : Int32)), (.int (48 : Int32)), (.int (48 : Int32)), (.int (48 : Int32)), (.int (48 : Int32)), (.int (48 : Int32)), (.int (48 : Int32)), (.int (48 : Int32)), (.int (48 : Int32)), (.int (0 : Int32)), (.int (0 : Int32)), (.int (0 : Int32)), (.int (0 : Int32)), (.int (0 : Int32)), (.int (0 : Int32)), (.int (0 : Int32)), (.int (0 : Int32)), (.int (0 : Int32)), (.int (0 : Int32)), (.int (0 : Int32))] := A166
    refine W.dup (pc' := 321) X d_m4_320 rfl rfl ?_
    refine W.bipush (pc' := 323) X (53 : Int32) d_m4_321 (by decide) rfl ?_
    refine W.bipush (pc' := 325) X (48 : Int32) d_m4_323 (by decide) rfl ?_
    refine W.castore (pc' := 326) (i := 53) X A166 (by decide) rfl (ltb rfl) (show nar .char (48 : Int32) = (48 : Int32) from by decide) g5 nb6 d_m4_325 rfl fun T h167 X K168 A169 => ?_
    have A169 : Ar Z h167 a2 .char [(.int (48 : Int32)), (.int (48 : Int32)), (.int (48 : Int32)), (.int (48 : Int32)), (.int (48 : Int32)), (.int (48 : Int32)), (.int (48 : Int32)), (.int (48 : Int32)), (.int (48 : Int32)), (.int (48 : Int32)), (.int (48 : Int32)), (.int (48 : Int32)), (.int (48 : Int32)), (.int (48 : Int32)), (.int (48 : Int32)), (.int (48 : Int32)), (.int (48 : Int32)), (.int (48 : Int32)), (.int (48 : Int32)), (.int (48 : Int32)), (.int (48 : Int32)), (.int (48 : Int32)), (.int (48 : Int32)), (.int (48 : Int32)), (.int (48 : Int32)), (.int (48 : Int32)), (.int (48 : Int32)), (.int (48 : Int32)), (.int (48 : Int32)), (.int (48 : Int32)), (.int (48 : Int32)), (.int (48 : Int32)), (.int (48 : Int32)), (.int (48 : Int32)), (.int (48 : Int32)), (.int (48 : Int32)), (.int (48 : Int32)), (.int (48 : Int32)), (.int (48 : Int32)), (.int (48 : Int32)), (.int (48 : Int32)), (.int (48 : Int32)), (.int (48 : Int32)), (.int (48 : Int32)), (.int (48 : Int32)), (.int (48 : Int32)), (.int (48 : Int32)), (.int (48 : Int32)), (.int (48 : Int32)), (.int (48 : Int32)), (.int (48 : Int32)), (.int (48 : Int32)), (.int (48 : Int32)), (.int (48 : Int32)), (.int (0 : Int32)), (.int (0 : Int32)), (.int (0 : Int32)), (.int (0 : Int32)), (.int (0 : Int32)), (.int (0 : Int32)), (.int (0 : Int32)), (.int (0 : Int32)), (.int (0 : Int32)), (.int (0 : Int32))] := A169
    refine W.dup (pc' := 327) X d_m4_326 rfl rfl ?_
    refine W.bipush (pc' := 329) X (54 : Int32) d_m4_327 (by decide) rfl ?_
    refine W.bipush (pc' := 331) X (48 : Int32) d_m4_329 (by decide) rfl ?_
    refine W.castore (pc' := 332) (i := 54) X A169 (by decide) rfl (ltb rfl) (show nar .char (48 : Int32) = (48 : Int32) from by decide) g5 nb6 d_m4_331 rfl fun T h170 X K171 A172 => ?_
    have A172 : Ar Z h170 a2 .char [(.int (48 : Int32)), (.int (48 : Int32)), (.int (48 : Int32)), (.int (48 : Int32)), (.int (48 : Int32)), (.int (48 : Int32)), (.int (48 : Int32)), (.int (48 : Int32)), (.int (48 : Int32)), (.int (48 : Int32)), (.int (48 : Int32)), (.int (48 : Int32)), (.int (48 : Int32)), (.int (48 : Int32)), (.int (48 : Int32)), (.int (48 : Int32)), (.int (48 : Int32)), (.int (48 : Int32)), (.int (48 : Int32)), (.int (48 : Int32)), (.int (48 : Int32)), (.int (48 : Int32)), (.int (48 : Int32)), (.int (48 : Int32)), (.int (48 : Int32)), (.int (48 : Int32)), (.int (48 : Int32)), (.int (48 : Int32)), (.int (48 : Int32)), (.int (48 : Int32)), (.int (48 : Int32)), (.int (48 : Int32)), (.int (48 : Int32)), (.int (48 : Int32)), (.int (48 : Int32)), (.int (48 : Int32)), (.int (48 : Int32)), (.int (48 : Int32)), (.int (48 : Int32)), (.int (48 : Int32)), (.int (48 : Int32)), (.int (48 : Int32)), (.int (48 : Int32)), (.int (48 : Int32)), (.int (48 : Int32)), (.int (48 : Int32)), (.int (48 : Int32)), (.int (48 : Int32)), (.int (48 : Int32)), (.int (48 : Int32)), (.int (48 : Int32)), (.int (48 : Int32)), (.int (48 : Int32)), (.int (48 : Int32)), (.int (48 : Int32)), (.int (0 : Int32)), (.int (0 : Int32)), (.int (0 : Int32)), (.int (0 : Int32)), (.int (0 : Int32)), (.int (0 : Int32)), (.int (0 : Int32)), (.int (0 : Int32)), (.int (0 : Int32))] := A172
    refine W.dup (pc' := 333) X d_m4_332 rfl rfl ?_
    refine W.bipush (pc' := 335) X (55 : Int32) d_m4_333 (by decide) rfl ?_
    refine W.bipush (pc' := 337) X (48 : Int32) d_m4_335 (by decide) rfl ?_
    refine W.castore (pc' := 338) (i := 55) X A172 (by decide) rfl (ltb rfl) (show nar .char (48 : Int32) = (48 : Int32) from by decide) g5 nb6 d_m4_337 rfl fun T h173 X K174 A175 => ?_
    have A175 : Ar Z h173 a2 .char [(.int (48 : Int32)), (.int (48 : Int32)), (.int (48 : Int32)), (.int (48 : Int32)), (.int (48 : Int32)), (.int (48 : Int32)), (.int (48 : Int32)), (.int (48 : Int32)), (.int (48 : Int32)), (.int (48 : Int32)), (.int (48 : Int32)), (.int (48 : Int32)), (.int (48 : Int32)), (.int (48 : Int32)), (.int (48 : Int32)), (.int (48 : Int32)), (.int (48 : Int32)), (.int (48 : Int32)), (.int (48 : Int32)), (.int (48 : Int32)), (.int (48 : Int32)), (.int (48 : Int32)), (.int (48 : Int32)), (.int (48 : Int32)), (.int (48 : Int32)), (.int (48 : Int32)), (.int (48 : Int32)), (.int (48 : Int32)), (.int (48 : Int32)), (.int (48 : Int32)), (.int (48 : Int32)), (.int (48 : Int32)), (.int (48 : Int32)), (.int (48 : Int32)), (.int (48 : Int32)), (.int (48 : Int32)), (.int (48 : Int32)), (.int (48 : Int32)), (.int (48 : Int32)), (.int (48 : Int32)), (.int (48 : Int32)), (.int (48 : Int32)), (.int (48 : Int32)), (.int (48 : Int32)), (.int (48 : Int32)), (.int (48 : Int32)), (.int (48 : Int32)), (.int (48 : Int32)), (.int (48 : Int32)), (.int (48 : Int32)), (.int (48 : Int32)), (.int (48 : Int32)), (.int (48 : Int32)), (.int (48 : Int32)), (.int (48 : Int32)), (.int (48 : Int32)), (.int (0 : Int32)), (.int (0 : Int32)), (.int (0 : Int32)), (.int (0 : Int32)), (.int (0 : Int32)), (.int (0 : Int32)), (.int (0 : Int32)), (.int (0 : Int32))] := A175
    refine W.dup (pc' := 339) X d_m4_338 rfl rfl ?_
    refine W.bipush (pc' := 341) X (56 : Int32) d_m4_339 (by decide) rfl ?_
    refine W.bipush (pc' := 343) X (48 : Int32) d_m4_341 (by decide) rfl ?_
    refine W.castore (pc' := 344) (i := 56) X A175 (by decide) rfl (ltb rfl) (show nar .char (48 : Int32) = (48 : Int32) from by decide) g5 nb6 d_m4_343 rfl fun T h176 X K177 A178 => ?_
    have A178 : Ar Z h176 a2 .char [(.int (48 : Int32)), (.int (48 : Int32)), (.int (48 : Int32)), (.int (48 : Int32)), (.int (48 : Int32)), (.int (48 : Int32)), (.int (48 : Int32)), (.int (48 : Int32)), (.int (48 : Int32)), (.int (48 : Int32)), (.int (48 : Int32)), (.int (48 : Int32)), (.int (48 : Int32)), (.int (48 : Int32)), (.int (48 : Int32)), (.int (48 : Int32)), (.int (48 : Int32)), (.int (48 : Int32)), (.int (48 : Int32)), (.int (48 : Int32)), (.int (48 : Int32)), (.int (48 : Int32)), (.int (48 : Int32)), (.int (48 : Int32)), (.int (48 : Int32)), (.int (48 : Int32)), (.int (48 : Int32)), (.int (48 : Int32)), (.int (48 : Int32)), (.int (48 : Int32)), (.int (48 : Int32)), (.int (48 : Int32)), (.int (48 : Int32)), (.int (48 : Int32)), (.int (48 : Int32)), (.int (48 : Int32)), (.int (48 : Int32)), (.int (48 : Int32)), (.int (48 : Int32)), (.int (48 : Int32)), (.int (48 : Int32)), (.int (48 : Int32)), (.int (48 : Int32)), (.int (48 : Int32)), (.int (48 : Int32)), (.int (48 : Int32)), (.int (48 : Int32)), (.int (48 : Int32)), (.int (48 : Int32)), (.int (48 : Int32)), (.int (48 : Int32)), (.int (48 : Int32)), (.int (48 : Int32)), (.int (48 : Int32)), (.int (48 : Int32)), (.int (48 : Int32)), (.int (48 : Int32)), (.int (0 : Int32)), (.int (0 : Int32)), (.int (0 : Int32)), (.int (0 : Int32)), (.int (0 : Int32)), (.int (0 : Int32)), (.int (0 : Int32))] := A178
    refine W.dup (pc' := 345) X d_m4_344 rfl rfl ?_
    refine W.bipush (pc' := 347) X (57 : Int32) d_m4_345 (by decide) rfl ?_
    refine W.bipush (pc' := 349) X (48 : Int32) d_m4_347 (by decide) rfl ?_
    refine W.castore (pc' := 350) (i := 57) X A178 (by decide) rfl (ltb rfl) (show nar .char (48 : Int32) = (48 : Int32) from by decide) g5 nb6 d_m4_349 rfl fun T h179 X K180 A181 => ?_
    have A181 : Ar Z h179 a2 .char [(.int (48 : Int32)), (.int (48 : Int32)), (.int (48 : Int32)), (.int (48 : Int32)), (.int (48 : Int32)), (.int (48 : Int32)), (.int (48 : Int32)), (.int (48 : Int32)), (.int (48 : Int32)), (.int (48 : Int32)), (.int (48 : Int32)), (.int (48 : Int32)), (.int (48 : Int32)), (.int (48 : Int32)), (.int (48 : Int32)), (.int (48 : Int32)), (.int (48 : Int32)), (.int (48 : Int32)), (.int (48 : Int32)), (.int (48 : Int32)), (.int (48 : Int32)), (.int (48 : Int32)), (.int (48 : Int32)), (.int (48 : Int32)), (.int (48 : Int32)), (.int (48 : Int32)), (.int (48 : Int32)), (.int (48 : Int32)), (.int (48 : Int32)), (.int (48 : Int32)), (.int (48 : Int32)), (.int (48 : Int32)), (.int (48 : Int32)), (.int (48 : Int32)), (.int (48 : Int32)), (.int (48 : Int32)), (.int (48 : Int32)), (.int (48 : Int32)), (.int (48 : Int32)), (.int (48 : Int32)), (.int (48 : Int32)), (.int (48 : Int32)), (.int (48 : Int32)), (.int (48 : Int32)), (.int (48 : Int32)), (.int (48 : Int32)), (.int (48 : Int32)), (.int (48 : Int32)), (.int (48 : Int32)), (.int (48 : Int32)), (.int (48 : Int32)), (.int (48 : Int32)), (.int (48 : Int32)), (.int (48 : Int32)), (.int (48 : Int32)), (.int (48 : Int32)), (.int (48 : Int32)), (.int (48 : Int32)), (.int (0 : Int32)), (.int (0 : Int32)), (.int (0 : Int32)), (.int (0 : Int32)), (.int (0 : Int32)), (.int (0 : Int32))] := A181
    refine W.dup (pc' := 351) X d_m4_350 rfl rfl ?_
    refine W.bipush (pc' := 353) X (58 : Int32) d_m4_351 (by decide) rfl ?_
    refine W.bipush (pc' := 355) X (48 : Int32) d_m4_353 (by decide) rfl ?_
    refine W.castore (pc' := 356) (i := 58) X A181 (by decide) rfl (ltb rfl) (show nar .char (48 : Int32) = (48 : Int32) from by decide) g5 nb6 d_m4_355 rfl fun T h182 X K183 A184 => ?_
    have A184 : Ar Z h182 a2 .char [(.int (48 : Int32)), (.int (48 : Int32)), (.int (48 : Int32)), (.int (48 : Int32)), (.int (48 : Int32)), (.int (48 : Int32)), (.int (48 : Int32)), (.int (48 : Int32)), (.int (48 : Int32)), (.int (48 : Int32)), (.int (48 : Int32)), (.int (48 : Int32)), (.int (48 : Int32)), (.int (48 : Int32)), (.int (48 : Int32)), (.int (48 : Int32)), (.int (48 : Int32)), (.int (48 : Int32)), (.int (48 : Int32)), (.int (48 : Int32)), (.int (48 : Int32)), (.int (48 : Int32)), (.int (48 : Int32)), (.int (48 : Int32)), (.int (48 : Int32)), (.int (48 : Int32)), (.int (48 : Int32)), (.int (48 : Int32)), (.int (48 : Int32)), (.int (48 : Int32)), (.int (48 : Int32)), (.int (48 : Int32)), (.int (48 : Int32)), (.int (48 : Int32)), (.int (48 : Int32)), (.int (48 : Int32)), (.int (48 : Int32)), (.int (48 : Int32)), (.int (48 : Int32)), (.int (48 : Int32)), (.int (48 : Int32)), (.int (48 : Int32)), (.int (48 : Int32)), (.int (48 : Int32)), (.int (48 : Int32)), (.int (48 : Int32)), (.int (48 : Int32)), (.int (48 : Int32)), (.int (48 : Int32)), (.int (48 : Int32)), (.int (48 : Int32)), (.int (48 : Int32)), (.int (48 : Int32)), (.int (48 : Int32)), (.int (48 : Int32)), (.int (48 : Int32)), (.int (48 : Int32)), (.int (48 : Int32)), (.int (48 : Int32)), (.int (0 : Int32)), (.int (0 : Int32)), (.int (0 : Int32)), (.int (0 : Int32)), (.int (0 : Int32))] := A184
    refine W.dup (pc' := 357) X d_m4_356 rfl rfl ?_
    refine W.bipush (pc' := 359) X (59 : Int32) d_m4_357 (by decide) rfl ?_
    refine W.bipush (pc' := 361) X (48 : Int32) d_m4_359 (by decide) rfl ?_
    refine W.castore (pc' := 362) (i := 59) X A184 (by decide) rfl (ltb rfl) (show nar .char (48 : Int32) = (48 : Int32) from by decide) g5 nb6 d_m4_361 rfl fun T h185 X K186 A187 => ?_
    have A187 : Ar Z h185 a2 .char [(.int (48 : Int32)), (.int (48 : Int32)), (.int (48 : Int32)), (.int (48 : Int32)), (.int (48 : Int32)), (.int (48 : Int32)), (.int (48 : Int32)), (.int (48 : Int32)), (.int (48 : Int32)), (.int (48 : Int32)), (.int (48 : Int32)), (.int (48 : Int32)), (.int (48 : Int32)), (.int (48 : Int32)), (.int (48 : Int32)), (.int (48 : Int32)), (.int (48 : Int32)), (.int (48 : Int32)), (.int (48 : Int32)), (.int (48 : Int32)), (.int (48 : Int32)), (.int (48 : Int32)), (.int (48 : Int32)), (.int (48 : Int32)), (.int (48 : Int32)), (.int (48 : Int32)), (.int (48 : Int32)), (.int (48 : Int32)), (.int (48 : Int32)), (.int (48 : Int32)), (.int (48 : Int32)), (.int (48 : Int32)), (.int (48 : Int32)), (.int (48 : Int32)), (.int (48 : Int32)), (.int (48 : Int32)), (.int (48 : Int32)), (.int (48 : Int32)), (.int (48 : Int32)), (.int (48 : Int32)), (.int (48 : Int32)), (.int (48 : Int32)), (.int (48 : Int32)), (.int (48 : Int32)), (.int (48 : Int32)), (.int (48 : Int32)), (.int (48 : Int32)), (.int (48 : Int32)), (.int (48 : Int32)), (.int (48 : Int32)), (.int (48 : Int32)), (.int (48 : Int32)), (.int (48 : Int32)), (.int (48 : Int32)), (.int (48 : Int32)), (.int (48 : Int32)), (.int (48 : Int32)), (.int (48 : Int32)), (.int (48 : Int32)), (.int (48 : Int32)), (.int (0 : Int32)), (.int (0 : Int32)), (.int (0 : Int32)), (.int (0 : Int32))] := A187
    refine W.dup (pc' := 363) X d_m4_362 rfl rfl ?_
    refine W.bipush (pc' := 365) X (60 : Int32) d_m4_363 (by decide) rfl ?_
    refine W.bipush (pc' := 367) X (48 : Int32) d_m4_365 (by decide) rfl ?_
    refine W.castore (pc' := 368) (i := 60) X A187 (by decide) rfl (ltb rfl) (show nar .char (48 : Int32) = (48 : Int32) from by decide) g5 nb6 d_m4_367 rfl fun T h188 X K189 A190 => ?_
    have A190 : Ar Z h188 a2 .char [(.int (48 : Int32)), (.int (48 : Int32)), (.int (48 : Int32)), (.int (48 : Int32)), (.int (48 : Int32)), (.int (48 : Int32)), (.int (48 : Int32)), (.int (48 : Int32)), (.int (48 : Int32)), (.int (48 : Int32)), (.int (48 : Int32)), (.int (48 : Int32)), (.int (48 : Int32)), (.int (48 : Int32)), (.int (48 : Int32)), (.int (48 : Int32)), (.int (48 : Int32)), (.int (48 : Int32)), (.int (48 : Int32)), (.int (48 : Int32)), (.int (48 : Int32)), (.int (48 : Int32)), (.int (48 : Int32)), (.int (48 : Int32)), (.int (48 : Int32)), (.int (48 : Int32)), (.int (48 : Int32)), (.int (48 : Int32)), (.int (48 : Int32)), (.int (48 : Int32)), (.int (48 : Int32)), (.int (48 : Int32)), (.int (48 : Int32)), (.int (48 : Int32)), (.int (48 : Int32)), (.int (48 : Int32)), (.int (48 : Int32)), (.int (48 : Int32)), (.int (48 : Int32)), (.int (48 : Int32)), (.int (48 : Int32)), (.int (48 : Int32)), (.int (48 : Int32)), (.int (48 : Int32)), (.int (48 : Int32)), (.int (48 : Int32)), (.int (48 : Int32)), (.int (48 : Int32)), (.int (48 : Int32)), (.int (48 : Int32)), (.int (48 : Int32)), (.int (48 : Int32)), (.int (48 : Int32)), (.int (48 : Int32)), (.int (48 : Int32)), (.int (48 : Int32)), (.int (48 : Int32)), (.int (48 : Int32)), (.int (48 : Int32)), (.int (48 : Int32)), (.int (48 : Int32)), (.int (0 : Int32)), (.int (0 : Int32)), (.int (0 : Int32))] := A190
    refine W.dup (pc' := 369) X d_m4_368 rfl rfl ?_
    refine W.bipush (pc' := 371) X (61 : Int32) d_m4_369 (by decide) rfl ?_
    refine W.bipush (pc' := 373) X (48 : Int32) d_m4_371 (by decide) rfl ?_
    refine W.castore (pc' := 374) (i := 61) X A190 (by decide) rfl (ltb rfl) (show nar .char (48 : Int32) = (48 : Int32) from by decide) g5 nb6 d_m4_373 rfl fun T h191 X K192 A193 => ?_
    have A193 : Ar Z h191 a2 .char [(.int (48 : Int32)), (.int (48 : Int32)), (.int (48 : Int32)), (.int (48 : Int32)), (.int (48 : Int32)), (.int (48 : Int32)), (.int (48 : Int32)), (.int (48 : Int32)), (.int (48 : Int32)), (.int (48 : Int32)), (.int (48 : Int32)), (.int (48 : Int32)), (.int (48 : Int32)), (.int (48 : Int32)), (.int (48 : Int32)), (.int (48 : Int32)), (.int (48 : Int32)), (.int (48 : Int32)), (.int (48 : Int32)), (.int (48 : Int32)), (.int (48 : Int32)), (.int (48 : Int32)), (.int (48 : Int32)), (.int (48 : Int32)), (.int (48 : Int32)), (.int (48 : Int32)), (.int (48 : Int32)), (.int (48 : Int32)), (.int (48 : Int32)), (.int (48 : Int32)), (.int (48 : Int32)), (.int (48 : Int32)), (.int (48 : Int32)), (.int (48 : Int32)), (.int (48 : Int32)), (.int (48 : Int32)), (.int (48 : Int32)), (.int (48 : Int32)), (.int (48 : Int32)), (.int (48 : Int32)), (.int (48 : Int32)), (.int (48 : Int32)), (.int (48 : Int32)), (.int (48 : Int32)), (.int (48 : Int32)), (.int (48 : Int32)), (.int (48 : Int32)), (.int (48 : Int32)), (.int (48 : Int32)), (.int (48 : Int32)), (.int (48 : Int32)), (.int (48 : Int32)), (.int (48 : Int32)), (.int (48 : Int32)), (.int (48 : Int32)), (.int (48 : Int32)), (.int (48 : Int32)), (.int (48 : Int32)), (.int (48 : Int32)), (.int (48 : Int32)), (.int (48 : Int32)), (.int (48 : Int32)), (.int (0 : Int32)), (.int (0 : Int32))] := A193
    refine W.dup (pc' := 375) X d_m4_374 rfl rfl ?_
    refine W.bipush (pc' := 377) X (62 : Int32) d_m4_375 (by decide) rfl ?_
    refine W.bipush (pc' := 379) X (48 : Int32) d_m4_377 (by decide) rfl ?_
    refine W.castore (pc' := 380) (i := 62) X A193 (by decide) rfl (ltb rfl) (show nar .char (48 : Int32) = (48 : Int32) from by decide) g5 nb6 d_m4_379 rfl fun T h194 X K195 A196 => ?_
    have A196 : Ar Z h194 a2 .char [(.int (48 : Int32)), (.int (48 : Int32)), (.int (48 : Int32)), (.int (48 : Int32)), (.int (48 : Int32)), (.int (48 : Int32)), (.int (48 : Int32)), (.int (48 : Int32)), (.int (48 : Int32)), (.int (48 : Int32)), (.int (48 : Int32)), (.int (48 : Int32)), (.int (48 : Int32)), (.int (48 : Int32)), (.int (48 : Int32)), (.int (48 : Int32)), (.int (48 : Int32)), (.int (48 : Int32)), (.int (48 : Int32)), (.int (48 : Int32)), (.int (48 : Int32)), (.int (48 : Int32)), (.int (48 : Int32)), (.int (48 : Int32)), (.int (48 : Int32)), (.int (48 : Int32)), (.int (48 : Int32)), (.int (48 : Int32)), (.int (48 : Int32)), (.int (48 : Int32)), (.int (48 : Int32)), (.int (48 : Int32)), (.int (48 : Int32)), (.int (48 : Int32)), (.int (48 : Int32)), (.int (48 : Int32)), (.int (48 : Int32)), (.int (48 : Int32)), (.int (48 : Int32)), (.int (48 : Int32)), (.int (48 : Int32)), (.int (48 : Int32)), (.int (48 : Int32)), (.int (48 : Int32)), (.int (48 : Int32)), (.int (48 : Int32)), (.int (48 : Int32)), (.int (48 : Int32)), (.int (48 : Int32)), (.int (48 : Int32)), (.int (48 : Int32)), (.int (48 : Int32)), (.int (48 : Int32)), (.int (48 : Int32)), (.int (48 : Int32)), (.int (48 : Int32)), (.int (48 : Int32)), (.int (48 : Int32)), (.int (48 : Int32)), (.int (48 : Int32)), (.int (48 : Int32)), (.int (48 : Int32)), (.int (48 : Int32)), (.int (0 : Int32))] := A196
    refine W.dup (pc' := 381) X d_m4_380 rfl rfl ?_
    refine W.bipush (pc' := 383) X (63 : Int32) d_m4_381 (by decide) rfl ?_
    refine W.bipush (pc' := 385) X (48 : Int32) d_m4_383 (by decide) rfl ?_
    refine W.castore (pc' := 386) (i := 63) X A196 (by decide) rfl (ltb rfl) (show nar .char (48 : Int32) = (48 : Int32) from by decide) g5 nb6 d_m4_385 rfl fun T h197 X K198 A199 => ?_
    have A199 : Ar Z h197 a2 .char [(.int (48 : Int32)), (.int (48 : Int32)), (.int (48 : Int32)), (.int (48 : Int32)), (.int (48 : Int32)), (.int (48 : Int32)), (.int (48 : Int32)), (.int (48 : Int32)), (.int (48 : Int32)), (.int (48 : Int32)), (.int (48 : Int32)), (.int (48 : Int32)), (.int (48 : Int32)), (.int (48 : Int32)), (.int (48 : Int32)), (.int (48 : Int32)), (.int (48 : Int32)), (.int (48 : Int32)), (.int (48 : Int32)), (.int (48 : Int32)), (.int (48 : Int32)), (.int (48 : Int32)), (.int (48 : Int32)), (.int (48 : Int32)), (.int (48 : Int32)), (.int (48 : Int32)), (.int (48 : Int32)), (.int (48 : Int32)), (.int (48 : Int32)), (.int (48 : Int32)), (.int (48 : Int32)), (.int (48 : Int32)), (.int (48 : Int32)), (.int (48 : Int32)), (.int (48 : Int32)), (.int (48 : Int32)), (.int (48 : Int32)), (.int (48 : Int32)), (.int (48 : Int32)), (.int (48 : Int32)), (.int (48 : Int32)), (.int (48 : Int32)), (.int (48 : Int32)), (.int (48 : Int32)), (.int (48 : Int32)), (.int (48 : Int32)), (.int (48 : Int32)), (.int (48 : Int32)), (.int (48 : Int32)), (.int (48 : Int32)), (.int (48 : Int32)), (.int (48 : Int32)), (.int (48 : Int32)), (.int (48 : Int32)), (.int (48 : Int32)), (.int (48 : Int32)), (.int (48 : Int32)), (.int (48 : Int32)), (.int (48 : Int32)), (.int (48 : Int32)), (.int (48 : Int32)), (.int (48 : Int32)), (.int (48 : Int32)), (.int (48 : Int32))] := A199
    refine W.astoreN (pc' := 387) (ls' := #[.val (.int i), .val (.int b), .val (.ref a2), .unset]) X d_m4_386 rfl rfl rfl ?_
    refine W.goto (pc' := 828) X d_m4_387 (by decide) (by decide) ?_
    refine W.aloadN (pc' := 829) X d_m4_828 rfl rfl rfl ?_
    refine W.alen (pc' := 830) (z := (64 : Int32)) X A199 rfl d_m4_829 rfl ?_
    refine W.istoreN (pc' := 831) (ls' := #[.val (.int i), .val (.int b), .val (.ref a2), .val (.int (64 : Int32))]) X d_m4_830 rfl rfl ?_
    refine W.aloadN (pc' := 832) X d_m4_831 rfl rfl rfl ?_
    refine W.iconst (pc' := 833) X (0 : Int32) d_m4_832 (by decide) rfl ?_
    refine W.iloadN (pc' := 834) X d_m4_833 rfl rfl ?_
    refine W.callS (pc' := 837) (W := 2) (argsL := [(.int b)]) (st := [(.int (0 : Int32)), (.ref a2)]) (k' := 1) (n' := 64) X (c_hex (n := b) G X.en) (w15 G) (w16 G) (w17 G) (w6 G) (by decide) (by decide) (by decide) rfl (lenOf pd16 rfl) rfl rfl (Nat.le_of_eq rfl) d_m4_834 rfl (by decide) (by decide) (by decide) (by decide) (kp fun T X => ?_)
    refine W.castore (pc' := 838) (i := 0) X A199 (by decide) rfl (ltb rfl) (hex_nar (hexd_hex _)) g5 nb6 d_m4_837 rfl fun T h200 X K201 A202 => ?_
    have A202 : Ar Z h200 a2 .char [(.int (hexd b)), (.int (48 : Int32)), (.int (48 : Int32)), (.int (48 : Int32)), (.int (48 : Int32)), (.int (48 : Int32)), (.int (48 : Int32)), (.int (48 : Int32)), (.int (48 : Int32)), (.int (48 : Int32)), (.int (48 : Int32)), (.int (48 : Int32)), (.int (48 : Int32)), (.int (48 : Int32)), (.int (48 : Int32)), (.int (48 : Int32)), (.int (48 : Int32)), (.int (48 : Int32)), (.int (48 : Int32)), (.int (48 : Int32)), (.int (48 : Int32)), (.int (48 : Int32)), (.int (48 : Int32)), (.int (48 : Int32)), (.int (48 : Int32)), (.int (48 : Int32)), (.int (48 : Int32)), (.int (48 : Int32)), (.int (48 : Int32)), (.int (48 : Int32)), (.int (48 : Int32)), (.int (48 : Int32)), (.int (48 : Int32)), (.int (48 : Int32)), (.int (48 : Int32)), (.int (48 : Int32)), (.int (48 : Int32)), (.int (48 : Int32)), (.int (48 : Int32)), (.int (48 : Int32)), (.int (48 : Int32)), (.int (48 : Int32)), (.int (48 : Int32)), (.int (48 : Int32)), (.int (48 : Int32)), (.int (48 : Int32)), (.int (48 : Int32)), (.int (48 : Int32)), (.int (48 : Int32)), (.int (48 : Int32)), (.int (48 : Int32)), (.int (48 : Int32)), (.int (48 : Int32)), (.int (48 : Int32)), (.int (48 : Int32)), (.int (48 : Int32)), (.int (48 : Int32)), (.int (48 : Int32)), (.int (48 : Int32)), (.int (48 : Int32)), (.int (48 : Int32)), (.int (48 : Int32)), (.int (48 : Int32)), (.int (48 : Int32))] := A202
    refine W.aloadN (pc' := 839) X d_m4_838 rfl rfl rfl ?_
    refine W.iloadN (pc' := 840) X d_m4_839 rfl rfl ?_
    refine W.iconst (pc' := 841) X (2 : Int32) d_m4_840 (by decide) rfl ?_
    refine W.idiv (pc' := 842) (w := (32 : Int32)) X d_m4_841 (by decide) (by decide) rfl ?_
    refine W.iloadN (pc' := 843) X d_m4_842 rfl rfl ?_
    refine W.iconst (pc' := 844) X (4 : Int32) d_m4_843 (by decide) rfl ?_
    refine W.iushr (pc' := 845) (w := (XT.ushr b (4 : Int32))) X d_m4_844 rfl rfl ?_
    refine W.callS (pc' := 848) (W := 2) (argsL := [(.int (XT.ushr b (4 : Int32)))]) (st := [(.int (32 : Int32)), (.ref a2)]) (k' := 1) (n' := 64) X (c_hex (n := (XT.ushr b (4 : Int32))) G X.en) (w15 G) (w16 G) (w17 G) (w6 G) (by decide) (by decide) (by decide) rfl (lenOf pd16 rfl) rfl rfl (Nat.le_of_eq rfl) d_m4_845 rfl (by decide) (by decide) (by decide) (by decide) (kp fun T X => ?_)
    refine W.castore (pc' := 849) (i := 32) X A202 (by decide) rfl (ltb rfl) (hex_nar (hexd_hex _)) g5 nb6 d_m4_848 rfl fun T h203 X K204 A205 => ?_
    have A205 : Ar Z h203 a2 .char [(.int (hexd b)), (.int (48 : Int32)), (.int (48 : Int32)), (.int (48 : Int32)), (.int (48 : Int32)), (.int (48 : Int32)), (.int (48 : Int32)), (.int (48 : Int32)), (.int (48 : Int32)), (.int (48 : Int32)), (.int (48 : Int32)), (.int (48 : Int32)), (.int (48 : Int32)), (.int (48 : Int32)), (.int (48 : Int32)), (.int (48 : Int32)), (.int (48 : Int32)), (.int (48 : Int32)), (.int (48 : Int32)), (.int (48 : Int32)), (.int (48 : Int32)), (.int (48 : Int32)), (.int (48 : Int32)), (.int (48 : Int32)), (.int (48 : Int32)), (.int (48 : Int32)), (.int (48 : Int32)), (.int (48 : Int32)), (.int (48 : Int32)), (.int (48 : Int32)), (.int (48 : Int32)), (.int (48 : Int32)), (.int (hexd (XT.ushr b (4 : Int32)))), (.int (48 : Int32)), (.int (48 : Int32)), (.int (48 : Int32)), (.int (48 : Int32)), (.int (48 : Int32)), (.int (48 : Int32)), (.int (48 : Int32)), (.int (48 : Int32)), (.int (48 : Int32)), (.int (48 : Int32)), (.int (48 : Int32)), (.int (48 : Int32)), (.int (48 : Int32)), (.int (48 : Int32)), (.int (48 : Int32)), (.int (48 : Int32)), (.int (48 : Int32)), (.int (48 : Int32)), (.int (48 : Int32)), (.int (48 : Int32)), (.int (48 : Int32)), (.int (48 : Int32)), (.int (48 : Int32)), (.int (48 : Int32)), (.int (48 : Int32)), (.int (48 : Int32)), (.int (48 : Int32)), (.int (48 : Int32)), (.int (48 : Int32)), (.int (48 : Int32)), (.int (48 : Int32))] := A205
    refine W.aloadN (pc' := 850) X d_m4_849 rfl rfl rfl ?_
    refine W.iloadN (pc' := 851) X d_m4_850 rfl rfl ?_
    refine W.iconst (pc' := 852) X (1 : Int32) d_m4_851 (by decide) rfl ?_
    refine W.isub (pc' := 853) (w := (63 : Int32)) X d_m4_852 (by decide) rfl ?_
    refine W.iloadN (pc' := 854) X d_m4_853 rfl rfl ?_
    refine W.bipush (pc' := 856) X (8 : Int32) d_m4_854 (by decide) rfl ?_
    refine W.iushr (pc' := 857) (w := (XT.ushr b (8 : Int32))) X d_m4_856 rfl rfl ?_
    refine W.callS (pc' := 860) (W := 2) (argsL := [(.int (XT.ushr b (8 : Int32)))]) (st := [(.int (63 : Int32)), (.ref a2)]) (k' := 1) (n' := 64) X (c_hex (n := (XT.ushr b (8 : Int32))) G X.en) (w15 G) (w16 G) (w17 G) (w6 G) (by decide) (by decide) (by decide) rfl (lenOf pd16 rfl) rfl rfl (Nat.le_of_eq rfl) d_m4_857 rfl (by decide) (by decide) (by decide) (by decide) (kp fun T X => ?_)
    refine W.castore (pc' := 861) (i := 63) X A205 (by decide) rfl (ltb rfl) (hex_nar (hexd_hex _)) g5 nb6 d_m4_860 rfl fun T h206 X K207 A208 => ?_
    have A208 : Ar Z h206 a2 .char [(.int (hexd b)), (.int (48 : Int32)), (.int (48 : Int32)), (.int (48 : Int32)), (.int (48 : Int32)), (.int (48 : Int32)), (.int (48 : Int32)), (.int (48 : Int32)), (.int (48 : Int32)), (.int (48 : Int32)), (.int (48 : Int32)), (.int (48 : Int32)), (.int (48 : Int32)), (.int (48 : Int32)), (.int (48 : Int32)), (.int (48 : Int32)), (.int (48 : Int32)), (.int (48 : Int32)), (.int (48 : Int32)), (.int (48 : Int32)), (.int (48 : Int32)), (.int (48 : Int32)), (.int (48 : Int32)), (.int (48 : Int32)), (.int (48 : Int32)), (.int (48 : Int32)), (.int (48 : Int32)), (.int (48 : Int32)), (.int (48 : Int32)), (.int (48 : Int32)), (.int (48 : Int32)), (.int (48 : Int32)), (.int (hexd (XT.ushr b (4 : Int32)))), (.int (48 : Int32)), (.int (48 : Int32)), (.int (48 : Int32)), (.int (48 : Int32)), (.int (48 : Int32)), (.int (48 : Int32)), (.int (48 : Int32)), (.int (48 : Int32)), (.int (48 : Int32)), (.int (48 : Int32)), (.int (48 : Int32)), (.int (48 : Int32)), (.int (48 : Int32)), (.int (48 : Int32)), (.int (48 : Int32)), (.int (48 : Int32)), (.int (48 : Int32)), (.int (48 : Int32)), (.int (48 : Int32)), (.int (48 : Int32)), (.int (48 : Int32)), (.int (48 : Int32)), (.int (48 : Int32)), (.int (48 : Int32)), (.int (48 : Int32)), (.int (48 : Int32)), (.int (48 : Int32)), (.int (48 : Int32)), (.int (48 : Int32)), (.int (48 : Int32)), (.int (hexd (XT.ushr b (8 : Int32))))] := A208
    refine W.new (pc' := 864) (k' := 2) (n' := 68) X (w18 G) (w19 G) (w20 G) d_m4_861 rfl (by decide) (by decide) (by decide) (by decide) fun T h209 a210 X K211 g212 g213 nb214 E215 D216 => ?_
    have F217 : Fld Z h209 a210 "java/lang/String" "coder" "B" (.int (0 : Int32)) := D216 (Or.inr (w44 G)) (ty := .byte) (by decide)
    have F218 : Fld Z h209 a210 "java/lang/String" "value" "[B" .null := D216 (Or.inr (w46 G)) (ty := (.array .byte)) (by decide)
    refine W.dup (pc' := 865) X d_m4_864 rfl rfl ?_
    refine W.aloadN (pc' := 866) X d_m4_865 rfl rfl rfl ?_
    have F219 := (A208.keep K211 nin0)
    have en220 := X.en
    refine W.callN (pc' := 869) (W := 1) (argsL := [(.ref a2)]) (st := [(.ref a210)]) (k' := 3) (n' := 132) (a := a210) X (c_init1 (x := a210) (a := a2) (cs := [(hexd b), (48 : Int32), (48 : Int32), (48 : Int32), (48 : Int32), (48 : Int32), (48 : Int32), (48 : Int32), (48 : Int32), (48 : Int32), (48 : Int32), (48 : Int32), (48 : Int32), (48 : Int32), (48 : Int32), (48 : Int32), (48 : Int32), (48 : Int32), (48 : Int32), (48 : Int32), (48 : Int32), (48 : Int32), (48 : Int32), (48 : Int32), (48 : Int32), (48 : Int32), (48 : Int32), (48 : Int32), (48 : Int32), (48 : Int32), (48 : Int32), (48 : Int32), (hexd (XT.ushr b (4 : Int32))), (48 : Int32), (48 : Int32), (48 : Int32), (48 : Int32), (48 : Int32), (48 : Int32), (48 : Int32), (48 : Int32), (48 : Int32), (48 : Int32), (48 : Int32), (48 : Int32), (48 : Int32), (48 : Int32), (48 : Int32), (48 : Int32), (48 : Int32), (48 : Int32), (48 : Int32), (48 : Int32), (48 : Int32), (48 : Int32), (48 : Int32), (48 : Int32), (48 : Int32), (48 : Int32), (48 : Int32), (48 : Int32), (48 : Int32), (48 : Int32), (hexd (XT.ushr b (8 : Int32)))]) (v0 := .null) (c0 := (.int (0 : Int32))) G X.en E215 F218 F217 F219 (latS (hex_rng (hexd_hex _)) (latS l48 (latS l48 (latS l48 (latS l48 (latS l48 (latS l48 (latS l48 (latS l48 (latS l48 (latS l48 (latS l48 (latS l48 (latS l48 (latS l48 (latS l48 (latS l48 (latS l48 (latS l48 (latS l48 (latS l48 (latS l48 (latS l48 (latS l48 (latS l48 (latS l48 (latS l48 (latS l48 (latS l48 (latS l48 (latS l48 (latS l48 (latS (hex_rng (hexd_hex _)) (latS l48 (latS l48 (latS l48 (latS l48 (latS l48 (latS l48 (latS l48 (latS l48 (latS l48 (latS l48 (latS l48 (latS l48 (latS l48 (latS l48 (latS l48 (latS l48 (latS l48 (latS l48 (latS l48 (latS l48 (latS l48 (latS l48 (latS l48 (latS l48 (latS l48 (latS l48 (latS l48 (latS l48 (latS l48 (latS l48 (latS (hex_rng (hexd_hex _)) lat0)))))))))))))))))))))))))))))))))))))))))))))))))))))))))))))))) (ltb rfl) (leb rfl) g213 nb214) rfl (w21 G) (w22 G) (w23 G) (w20 G) (by decide) (by decide) (by decide) rfl (lenOf pd26 rfl) rfl rfl (Nat.le_of_eq rfl) d_m4_866 rfl (by decide) (by decide) (by decide) (by decide) (kv fun T h221 X z222 q223 => ?_)
    obtain ⟨a224, K225, g226, F227⟩ := q223
    have g228 : Z.heap.size ≤ a224 := Nat.le_trans (Nat.le_trans hz0 (Nat.le_trans (Nat.le_trans (Nat.le_trans (Nat.le_trans (Nat.le_trans (Nat.le_trans (Nat.le_trans (Nat.le_trans (Nat.le_trans (Nat.le_trans (Nat.le_trans (Nat.le_trans (Nat.le_trans (Nat.le_trans (Nat.le_trans (Nat.le_trans (Nat.le_trans (Nat.le_trans (Nat.le_trans (Nat.le_trans (Nat.le_trans (Nat.le_trans (Nat.le_trans (Nat.le_trans (Nat.le_trans (Nat.le_trans (Nat.le_trans (Nat.le_trans (Nat.le_trans (Nat.le_trans (Nat.le_trans (Nat.le_trans (Nat.le_trans (Nat.le_trans (Nat.le_trans (Nat.le_trans (Nat.le_trans (Nat.le_trans (Nat.le_trans (Nat.le_trans (Nat.le_trans (Nat.le_trans (Nat.le_trans (Nat.le_trans (Nat.le_trans (Nat.le_trans (Nat.le_trans (Nat.le_trans (Nat.le_trans (Nat.le_trans (Nat.le_trans (Nat.le_trans (Nat.le_trans (Nat.le_trans (Nat.le_trans (Nat.le_trans (Nat.le_trans (Nat.le_trans (Nat.le_trans (Nat.le_trans (Nat.le_trans (Nat.le_trans (Nat.le_trans (Nat.le_trans (Nat.le_trans (Nat.le_trans (Nat.le_trans (Nat.le_trans K3.1 K9.1) K12.1) K15.1) K18.1) K21.1) K24.1) K27.1) K30.1) K33.1) K36.1) K39.1) K42.1) K45.1) K48.1) K51.1) K54.1) K57.1) K60.1) K63.1) K66.1) K69.1) K72.1) K75.1) K78.1) K81.1) K84.1) K87.1) K90.1) K93.1) K96.1) K99.1) K102.1) K105.1) K108.1) K111.1) K114.1) K117.1) K120.1) K123.1) K126.1) K129.1) K132.1) K135.1) K138.1) K141.1) K144.1) K147.1) K150.1) K153.1) K156.1) K159.1) K162.1) K165.1) K168.1) K171.1) K174.1) K177.1) K180.1) K183.1) K186.1) K189.1) K192.1) K195.1) K198.1) K201.1) K204.1) K207.1) K211.1)) g226
    have nb229 : ¬ B a224 := fun q => absurd (en220.2 _ q) (Nat.not_lt.mpr g226)
    exact W.areturn X d_m4_869 rfl rfl rfl rfl (by decide) (by decide) ⟨_, rfl, rfl, ⟨a210, a224, rfl, (Keep.trans (Keep.trans (Keep.trans (Keep.trans (Keep.trans (Keep.trans (Keep.trans (Keep.trans (Keep.trans (Keep.trans (Keep.trans (Keep.trans (Keep.trans (Keep.trans (Keep.trans (Keep.trans (Keep.trans (Keep.trans (Keep.trans (Keep.trans (Keep.trans (Keep.trans (Keep.trans (Keep.trans (Keep.trans (Keep.trans (Keep.trans (Keep.trans (Keep.trans (Keep.trans (Keep.trans (Keep.trans (Keep.trans (Keep.trans (Keep.trans (Keep.trans (Keep.trans (Keep.trans (Keep.trans (Keep.trans (Keep.trans (Keep.trans (Keep.trans (Keep.trans (Keep.trans (Keep.trans (Keep.trans (Keep.trans (Keep.trans (Keep.trans (Keep.trans (Keep.trans (Keep.trans (Keep.trans (Keep.trans (Keep.trans (Keep.trans (Keep.trans (Keep.trans (Keep.trans (Keep.trans (Keep.trans (Keep.trans (Keep.trans (Keep.trans (Keep.trans (Keep.trans (Keep.trans (Keep.trans (Keep.trans (Keep.refl h []) K3 all0) K9 (allS (Or.inr (Nat.le_trans (Nat.le_refl _) g4)) all0)) K12 (allS (Or.inr (Nat.le_trans (Nat.le_refl _) g4)) all0)) K15 (allS (Or.inr (Nat.le_trans (Nat.le_refl _) g4)) all0)) K18 (allS (Or.inr (Nat.le_trans (Nat.le_refl _) g4)) all0)) K21 (allS (Or.inr (Nat.le_trans (Nat.le_refl _) g4)) all0)) K24 (allS (Or.inr (Nat.le_trans (Nat.le_refl _) g4)) all0)) K27 (allS (Or.inr (Nat.le_trans (Nat.le_refl _) g4)) all0)) K30 (allS (Or.inr (Nat.le_trans (Nat.le_refl _) g4)) all0)) K33 (allS (Or.inr (Nat.le_trans (Nat.le_refl _) g4)) all0)) K36 (allS (Or.inr (Nat.le_trans (Nat.le_refl _) g4)) all0)) K39 (allS (Or.inr (Nat.le_trans (Nat.le_refl _) g4)) all0)) K42 (allS (Or.inr (Nat.le_trans (Nat.le_refl _) g4)) all0)) K45 (allS (Or.inr (Nat.le_trans (Nat.le_refl _) g4)) all0)) K48 (allS (Or.inr (Nat.le_trans (Nat.le_refl _) g4)) all0)) K51 (allS (Or.inr (Nat.le_trans (Nat.le_refl _) g4)) all0)) K54 (allS (Or.inr (Nat.le_trans (Nat.le_refl _) g4)) all0)) K57 (allS (Or.inr (Nat.le_trans (Nat.le_refl _) g4)) all0)) K60 (allS (Or.inr (Nat.le_trans (Nat.le_refl _) g4)) all0)) K63 (allS (Or.inr (Nat.le_trans (Nat.le_refl _) g4)) all0)) K66 (allS (Or.inr (Nat.le_trans (Nat.le_refl _) g4)) all0)) K69 (allS (Or.inr (Nat.le_trans (Nat.le_refl _) g4)) all0)) K72 (allS (Or.inr (Nat.le_trans (Nat.le_refl _) g4)) all0)) K75 (allS (Or.inr (Nat.le_trans (Nat.le_refl _) g4)) all0)) K78 (allS (Or.inr (Nat.le_trans (Nat.le_refl _) g4)) all0)) K81 (allS (Or.inr (Nat.le_trans (Nat.le_refl _) g4)) all0)) K84 (allS (Or.inr (Nat.le_trans (Nat.le_refl _) g4)) all0)) K87 (allS (Or.inr (Nat.le_trans (Nat.le_refl _) g4)) all0)) K90 (allS (Or.inr (Nat.le_trans (Nat.le_refl _) g4)) all0)) K93 (allS (Or.inr (Nat.le_trans (Nat.le_refl _) g4)) all0)) K96 (allS (Or.inr (Nat.le_trans (Nat.le_refl _) g4)) all0)) K99 (allS (Or.inr (Nat.le_trans (Nat.le_refl _) g4)) all0)) K102 (allS (Or.inr (Nat.le_trans (Nat.le_refl _) g4)) all0)) K105 (allS (Or.inr (Nat.le_trans (Nat.le_refl _) g4)) all0)) K108 (allS (Or.inr (Nat.le_trans (Nat.le_refl _) g4)) all0)) K111 (allS (Or.inr (Nat.le_trans (Nat.le_refl _) g4)) all0)) K114 (allS (Or.inr (Nat.le_trans (Nat.le_refl _) g4)) all0)) K117 (allS (Or.inr (Nat.le_trans (Nat.le_refl _) g4)) all0)) K120 (allS (Or.inr (Nat.le_trans (Nat.le_refl _) g4)) all0)) K123 (allS (Or.inr (Nat.le_trans (Nat.le_refl _) g4)) all0)) K126 (allS (Or.inr (Nat.le_trans (Nat.le_refl _) g4)) all0)) K129 (allS (Or.inr (Nat.le_trans (Nat.le_refl _) g4)) all0)) K132 (allS (Or.inr (Nat.le_trans (Nat.le_refl _) g4)) all0)) K135 (allS (Or.inr (Nat.le_trans (Nat.le_refl _) g4)) all0)) K138 (allS (Or.inr (Nat.le_trans (Nat.le_refl _) g4)) all0)) K141 (allS (Or.inr (Nat.le_trans (Nat.le_refl _) g4)) all0)) K144 (allS (Or.inr (Nat.le_trans (Nat.le_refl _) g4)) all0)) K147 (allS (Or.inr (Nat.le_trans (Nat.le_refl _) g4)) all0)) K150 (allS (Or.inr (Nat.le_trans (Nat.le_refl _) g4)) all0)) K153 (allS (Or.inr (Nat.le_trans (Nat.le_refl _) g4)) all0)) K156 (allS (Or.inr (Nat.le_trans (Nat.le_refl _) g4)) all0)) K159 (allS (Or.inr (Nat.le_trans (Nat.le_refl _) g4)) all0)) K162 (allS (Or.inr (Nat.le_trans (Nat.le_refl _) g4)) all0)) K165 (allS (Or.inr (Nat.le_trans (Nat.le_refl _) g4)) all0)) K168 (allS (Or.inr (Nat.le_trans (Nat.le_refl _) g4)) all0)) K171 (allS (Or.inr (Nat.le_trans (Nat.le_refl _) g4)) all0)) K174 (allS (Or.inr (Nat.le_trans (Nat.le_refl _) g4)) all0)) K177 (allS (Or.inr (Nat.le_trans (Nat.le_refl _) g4)) all0)) K180 (allS (Or.inr (Nat.le_trans (Nat.le_refl _) g4)) all0)) K183 (allS (Or.inr (Nat.le_trans (Nat.le_refl _) g4)) all0)) K186 (allS (Or.inr (Nat.le_trans (Nat.le_refl _) g4)) all0)) K189 (allS (Or.inr (Nat.le_trans (Nat.le_refl _) g4)) all0)) K192 (allS (Or.inr (Nat.le_trans (Nat.le_refl _) g4)) all0)) K195 (allS (Or.inr (Nat.le_trans (Nat.le_refl _) g4)) all0)) K198 (allS (Or.inr (Nat.le_trans (Nat.le_refl _) g4)) all0)) K201 (allS (Or.inr (Nat.le_trans (Nat.le_refl _) g4)) all0)) K204 (allS (Or.inr (Nat.le_trans (Nat.le_refl _) g4)) all0)) K207 (allS (Or.inr (Nat.le_trans (Nat.le_refl _) g4)) all0)) K211 all0) K225 (allS (Or.inr (Nat.le_trans (Nat.le_trans (Nat.le_trans (Nat.le_trans (Nat.le_trans (Nat.le_trans (Nat.le_trans (Nat.le_trans (Nat.le_trans (Nat.le_trans (Nat.le_trans (Nat.le_trans (Nat.le_trans (Nat.le_trans (Nat.le_trans (Nat.le_trans (Nat.le_trans (Nat.le_trans (Nat.le_trans (Nat.le_trans (Nat.le_trans (Nat.le_trans (Nat.le_trans (Nat.le_trans (Nat.le_trans (Nat.le_trans (Nat.le_trans (Nat.le_trans (Nat.le_trans (Nat.le_trans (Nat.le_trans (Nat.le_trans (Nat.le_trans (Nat.le_trans (Nat.le_trans (Nat.le_trans (Nat.le_trans (Nat.le_trans (Nat.le_trans (Nat.le_trans (Nat.le_trans (Nat.le_trans (Nat.le_trans (Nat.le_trans (Nat.le_trans (Nat.le_trans (Nat.le_trans (Nat.le_trans (Nat.le_trans (Nat.le_trans (Nat.le_trans (Nat.le_trans (Nat.le_trans (Nat.le_trans (Nat.le_trans (Nat.le_trans (Nat.le_trans (Nat.le_trans (Nat.le_trans (Nat.le_trans (Nat.le_trans (Nat.le_trans (Nat.le_trans (Nat.le_trans (Nat.le_trans (Nat.le_trans (Nat.le_trans (Nat.le_trans K3.1 K9.1) K12.1) K15.1) K18.1) K21.1) K24.1) K27.1) K30.1) K33.1) K36.1) K39.1) K42.1) K45.1) K48.1) K51.1) K54.1) K57.1) K60.1) K63.1) K66.1) K69.1) K72.1) K75.1) K78.1) K81.1) K84.1) K87.1) K90.1) K93.1) K96.1) K99.1) K102.1) K105.1) K108.1) K111.1) K114.1) K117.1) K120.1) K123.1) K126.1) K129.1) K132.1) K135.1) K138.1) K141.1) K144.1) K147.1) K150.1) K153.1) K156.1) K159.1) K162.1) K165.1) K168.1) K171.1) K174.1) K177.1) K180.1) K183.1) K186.1) K189.1) K192.1) K195.1) K198.1) K201.1) K204.1) K207.1) g212)) all0)), (Nat.le_trans (Nat.le_trans (Nat.le_trans (Nat.le_trans (Nat.le_trans (Nat.le_trans (Nat.le_trans (Nat.le_trans (Nat.le_trans (Nat.le_trans (Nat.le_trans (Nat.le_trans (Nat.le_trans (Nat.le_trans (Nat.le_trans (Nat.le_trans (Nat.le_trans (Nat.le_trans (Nat.le_trans (Nat.le_trans (Nat.le_trans (Nat.le_trans (Nat.le_trans (Nat.le_trans (Nat.le_trans (Nat.le_trans (Nat.le_trans (Nat.le_trans (Nat.le_trans (Nat.le_trans (Nat.le_trans (Nat.le_trans (Nat.le_trans (Nat.le_trans (Nat.le_trans (Nat.le_trans (Nat.le_trans (Nat.le_trans (Nat.le_trans (Nat.le_trans (Nat.le_trans (Nat.le_trans (Nat.le_trans (Nat.le_trans (Nat.le_trans (Nat.le_trans (Nat.le_trans (Nat.le_trans (Nat.le_trans (Nat.le_trans (Nat.le_trans (Nat.le_trans (Nat.le_trans (Nat.le_trans (Nat.le_trans (Nat.le_trans (Nat.le_trans (Nat.le_trans (Nat.le_trans (Nat.le_trans (Nat.le_trans (Nat.le_trans (Nat.le_trans (Nat.le_trans (Nat.le_trans (Nat.le_trans (Nat.le_trans (Nat.le_trans K3.1 K9.1) K12.1) K15.1) K18.1) K21.1) K24.1) K27.1) K30.1) K33.1) K36.1) K39.1) K42.1) K45.1) K48.1) K51.1) K54.1) K57.1) K60.1) K63.1) K66.1) K69.1) K72.1) K75.1) K78.1) K81.1) K84.1) K87.1) K90.1) K93.1) K96.1) K99.1) K102.1) K105.1) K108.1) K111.1) K114.1) K117.1) K120.1) K123.1) K126.1) K129.1) K132.1) K135.1) K138.1) K141.1) K144.1) K147.1) K150.1) K153.1) K156.1) K159.1) K162.1) K165.1) K168.1) K171.1) K174.1) K177.1) K180.1) K183.1) K186.1) K189.1) K192.1) K195.1) K198.1) K201.1) K204.1) K207.1) g212), (Nat.le_trans (Nat.le_trans (Nat.le_trans (Nat.le_trans (Nat.le_trans (Nat.le_trans (Nat.le_trans (Nat.le_trans (Nat.le_trans (Nat.le_trans (Nat.le_trans (Nat.le_trans (Nat.le_trans (Nat.le_trans (Nat.le_trans (Nat.le_trans (Nat.le_trans (Nat.le_trans (Nat.le_trans (Nat.le_trans (Nat.le_trans (Nat.le_trans (Nat.le_trans (Nat.le_trans (Nat.le_trans (Nat.le_trans (Nat.le_trans (Nat.le_trans (Nat.le_trans (Nat.le_trans (Nat.le_trans (Nat.le_trans (Nat.le_trans (Nat.le_trans (Nat.le_trans (Nat.le_trans (Nat.le_trans (Nat.le_trans (Nat.le_trans (Nat.le_trans (Nat.le_trans (Nat.le_trans (Nat.le_trans (Nat.le_trans (Nat.le_trans (Nat.le_trans (Nat.le_trans (Nat.le_trans (Nat.le_trans (Nat.le_trans (Nat.le_trans (Nat.le_trans (Nat.le_trans (Nat.le_trans (Nat.le_trans (Nat.le_trans (Nat.le_trans (Nat.le_trans (Nat.le_trans (Nat.le_trans (Nat.le_trans (Nat.le_trans (Nat.le_trans (Nat.le_trans (Nat.le_trans (Nat.le_trans (Nat.le_trans (Nat.le_trans (Nat.le_trans K3.1 K9.1) K12.1) K15.1) K18.1) K21.1) K24.1) K27.1) K30.1) K33.1) K36.1) K39.1) K42.1) K45.1) K48.1) K51.1) K54.1) K57.1) K60.1) K63.1) K66.1) K69.1) K72.1) K75.1) K78.1) K81.1) K84.1) K87.1) K90.1) K93.1) K96.1) K99.1) K102.1) K105.1) K108.1) K111.1) K114.1) K117.1) K120.1) K123.1) K126.1) K129.1) K132.1) K135.1) K138.1) K141.1) K144.1) K147.1) K150.1) K153.1) K156.1) K159.1) K162.1) K165.1) K168.1) K171.1) K174.1) K177.1) K180.1) K183.1) K186.1) K189.1) K192.1) K195.1) K198.1) K201.1) K204.1) K207.1) K211.1) g226), (strc F227 (by rw [sg, if_pos hi0]; rfl))⟩⟩
  · skip
    refine W.ifT (pc' := 390) X d_m4_1 (XT.i0_ne_t hi0) (by decide) (by decide) ?_
    refine W.iloadN (pc' := 391) X d_m4_390 rfl rfl ?_
    refine W.iconst (pc' := 392) X (1 : Int32) d_m4_391 (by decide) rfl ?_
    by_cases hi1 : i = (1 : Int32)
    · skip
      refine W.icF (pc' := 395) X d_m4_392 (XT.ii_ne_f hi1) rfl ?_
      refine W.bipush (pc' := 397) X (40 : Int32) d_m4_395 (by decide) rfl ?_
      refine W.newA (aty := .char) (pc' := 399) (k' := 1) (n' := 40) (cap := 40) X (w14 G) d_m4_397 (by decide) (by decide) (by decide) rfl (by decide) (by decide) (by decide) (by decide) fun T h230 a231 X K232 g233 g234 nb235 A236 => ?_
      have A236 : Ar Z h230 a231 .char [(.int (0 : Int32)), (.int (0 : Int32)), (.int (0 : Int32)), (.int (0 : Int32)), (.int (0 : Int32)), (.int (0 : Int32)), (.int (0 : Int32)), (.int (0 : Int32)), (.int (0 : Int32)), (.int (0 : Int32)), (.int (0 : Int32)), (.int (0 : Int32)), (.int (0 : Int32)), (.int (0 : Int32)), (.int (0 : Int32)), (.int (0 : Int32)), (.int (0 : Int32)), (.int (0 : Int32)), (.int (0 : Int32)), (.int (0 : Int32)), (.int (0 : Int32)), (.int (0 : Int32)), (.int (0 : Int32)), (.int (0 : Int32)), (.int (0 : Int32)), (.int (0 : Int32)), (.int (0 : Int32)), (.int (0 : Int32)), (.int (0 : Int32)), (.int (0 : Int32)), (.int (0 : Int32)), (.int (0 : Int32)), (.int (0 : Int32)), (.int (0 : Int32)), (.int (0 : Int32)), (.int (0 : Int32)), (.int (0 : Int32)), (.int (0 : Int32)), (.int (0 : Int32)), (.int (0 : Int32))] := A236
      refine W.dup (pc' := 400) X d_m4_399 rfl rfl ?_
      refine W.iconst (pc' := 401) X (0 : Int32) d_m4_400 (by decide) rfl ?_
      refine W.bipush (pc' := 403) X (48 : Int32) d_m4_401 (by decide) rfl ?_
      refine W.castore (pc' := 404) (i := 0) X A236 (by decide) rfl (ltb rfl) (show nar .char (48 : Int32) = (48 : Int32) from by decide) g234 nb235 d_m4_403 rfl fun T h237 X K238 A239 => ?_
      have A239 : Ar Z h237 a231 .char [(.int (48 : Int32)), (.int (0 : Int32)), (.int (0 : Int32)), (.int (0 : Int32)), (.int (0 : Int32)), (.int (0 : Int32)), (.int (0 : Int32)), (.int (0 : Int32)), (.int (0 : Int32)), (.int (0 : Int32)), (.int (0 : Int32)), (.int (0 : Int32)), (.int (0 : Int32)), (.int (0 : Int32)), (.int (0 : Int32)), (.int (0 : Int32)), (.int (0 : Int32)), (.int (0 : Int32)), (.int (0 : Int32)), (.int (0 : Int32)), (.int (0 : Int32)), (.int (0 : Int32)), (.int (0 : Int32)), (.int (0 : Int32)), (.int (0 : Int32)), (.int (0 : Int32)), (.int (0 : Int32)), (.int (0 : Int32)), (.int (0 : Int32)), (.int (0 : Int32)), (.int (0 : Int32)), (.int (0 : Int32)), (.int (0 : Int32)), (.int (0 : Int32)), (.int (0 : Int32)), (.int (0 : Int32)), (.int (0 : Int32)), (.int (0 : Int32)), (.int (0 : Int32)), (.int (0 : Int32))] := A239
      refine W.dup (pc' := 405) X d_m4_404 rfl rfl ?_
      refine W.iconst (pc' := 406) X (1 : Int32) d_m4_405 (by decide) rfl ?_
      refine W.bipush (pc' := 408) X (48 : Int32) d_m4_406 (by decide) rfl ?_
      refine W.castore (pc' := 409) (i := 1) X A239 (by decide) rfl (ltb rfl) (show nar .char (48 : Int32) = (48 : Int32) from by decide) g234 nb235 d_m4_408 rfl fun T h240 X K241 A242 => ?_
      have A242 : Ar Z h240 a231 .char [(.int (48 : Int32)), (.int (48 : Int32)), (.int (0 : Int32)), (.int (0 : Int32)), (.int (0 : Int32)), (.int (0 : Int32)), (.int (0 : Int32)), (.int (0 : Int32)), (.int (0 : Int32)), (.int (0 : Int32)), (.int (0 : Int32)), (.int (0 : Int32)), (.int (0 : Int32)), (.int (0 : Int32)), (.int (0 : Int32)), (.int (0 : Int32)), (.int (0 : Int32)), (.int (0 : Int32)), (.int (0 : Int32)), (.int (0 : Int32)), (.int (0 : Int32)), (.int (0 : Int32)), (.int (0 : Int32)), (.int (0 : Int32)), (.int (0 : Int32)), (.int (0 : Int32)), (.int (0 : Int32)), (.int (0 : Int32)), (.int (0 : Int32)), (.int (0 : Int32)), (.int (0 : Int32)), (.int (0 : Int32)), (.int (0 : Int32)), (.int (0 : Int32)), (.int (0 : Int32)), (.int (0 : Int32)), (.int (0 : Int32)), (.int (0 : Int32)), (.int (0 : Int32)), (.int (0 : Int32))] := A242
      refine W.dup (pc' := 410) X d_m4_409 rfl rfl ?_
      refine W.iconst (pc' := 411) X (2 : Int32) d_m4_410 (by decide) rfl ?_
      refine W.bipush (pc' := 413) X (48 : Int32) d_m4_411 (by decide) rfl ?_
      refine W.castore (pc' := 414) (i := 2) X A242 (by decide) rfl (ltb rfl) (show nar .char (48 : Int32) = (48 : Int32) from by decide) g234 nb235 d_m4_413 rfl fun T h243 X K244 A245 => ?_
      have A245 : Ar Z h243 a231 .char [(.int (48 : Int32)), (.int (48 : Int32)), (.int (48 : Int32)), (.int (0 : Int32)), (.int (0 : Int32)), (.int (0 : Int32)), (.int (0 : Int32)), (.int (0 : Int32)), (.int (0 : Int32)), (.int (0 : Int32)), (.int (0 : Int32)), (.int (0 : Int32)), (.int (0 : Int32)), (.int (0 : Int32)), (.int (0 : Int32)), (.int (0 : Int32)), (.int (0 : Int32)), (.int (0 : Int32)), (.int (0 : Int32)), (.int (0 : Int32)), (.int (0 : Int32)), (.int (0 : Int32)), (.int (0 : Int32)), (.int (0 : Int32)), (.int (0 : Int32)), (.int (0 : Int32)), (.int (0 : Int32)), (.int (0 : Int32)), (.int (0 : Int32)), (.int (0 : Int32)), (.int (0 : Int32)), (.int (0 : Int32)), (.int (0 : Int32)), (.int (0 : Int32)), (.int (0 : Int32)), (.int (0 : Int32)), (.int (0 : Int32)), (.int (0 : Int32)), (.int (0 : Int32)), (.int (0 : Int32))] := A245
      refine W.dup (pc' := 415) X d_m4_414 rfl rfl ?_
      refine W.iconst (pc' := 416) X (3 : Int32) d_m4_415 (by decide) rfl ?_
      refine W.bipush (pc' := 418) X (48 : Int32) d_m4_416 (by decide) rfl ?_
      refine W.castore (pc' := 419) (i := 3) X A245 (by decide) rfl (ltb rfl) (show nar .char (48 : Int32) = (48 : Int32) from by decide) g234 nb235 d_m4_418 rfl fun T h246 X K247 A248 => ?_
      have A248 : Ar Z h246 a231 .char [(.int (48 : Int32)), (.int (48 : Int32)), (.int (48 : Int32)), (.int (48 : Int32)), (.int (0 : Int32)), (.int (0 : Int32)), (.int (0 : Int32)), (.int (0 : Int32)), (.int (0 : Int32)), (.int (0 : Int32)), (.int (0 : Int32)), (.int (0 : Int32)), (.int (0 : Int32)), (.int (0 : Int32)), (.int (0 : Int32)), (.int (0 : Int32)), (.int (0 : Int32)), (.int (0 : Int32)), (.int (0 : Int32)), (.int (0 : Int32)), (.int (0 : Int32)), (.int (0 : Int32)), (.int (0 : Int32)), (.int (0 : Int32)), (.int (0 : Int32)), (.int (0 : Int32)), (.int (0 : Int32)), (.int (0 : Int32)), (.int (0 : Int32)), (.int (0 : Int32)), (.int (0 : Int32)), (.int (0 : Int32)), (.int (0 : Int32)), (.int (0 : Int32)), (.int (0 : Int32)), (.int (0 : Int32)), (.int (0 : Int32)), (.int (0 : Int32)), (.int (0 : Int32)), (.int (0 : Int32))] := A248
      refine W.dup (pc' := 420) X d_m4_419 rfl rfl ?_
      refine W.iconst (pc' := 421) X (4 : Int32) d_m4_420 (by decide) rfl ?_
      refine W.bipush (pc' := 423) X (48 : Int32) d_m4_421 (by decide) rfl ?_
      refine W.castore (pc' := 424) (i := 4) X A248 (by decide) rfl (ltb rfl) (show nar .char (48 : Int32) = (48 : Int32) from by decide) g234 nb235 d_m4_423 rfl fun T h249 X K250 A251 => ?_
      have A251 : Ar Z h249 a231 .char [(.int (48 : Int32)), (.int (48 : Int32)), (.int (48 : Int32)), (.int (48 : Int32)), (.int (48 : Int32)), (.int (0 : Int32)), (.int (0 : Int32)), (.int (0 : Int32)), (.int (0 : Int32)), (.int (0 : Int32)), (.int (0 : Int32)), (.int (0 : Int32)), (.int (0 : Int32)), (.int (0 : Int32)), (.int (0 : Int32)), (.int (0 : Int32)), (.int (0 : Int32)), (.int (0 : Int32)), (.int (0 : Int32)), (.int (0 : Int32)), (.int (0 : Int32)), (.int (0 : Int32)), (.int (0 : Int32)), (.int (0 : Int32)), (.int (0 : Int32)), (.int (0 : Int32)), (.int (0 : Int32)), (.int (0 : Int32)), (.int (0 : Int32)), (.int (0 : Int32)), (.int (0 : Int32)), (.int (0 : Int32)), (.int (0 : Int32)), (.int (0 : Int32)), (.int (0 : Int32)), (.int (0 : Int32)), (.int (0 : Int32)), (.int (0 : Int32)), (.int (0 : Int32)), (.int (0 : Int32))] := A251
      refine W.dup (pc' := 425) X d_m4_424 rfl rfl ?_
      refine W.iconst (pc' := 426) X (5 : Int32) d_m4_425 (by decide) rfl ?_
      refine W.bipush (pc' := 428) X (48 : Int32) d_m4_426 (by decide) rfl ?_
      refine W.castore (pc' := 429) (i := 5) X A251 (by decide) rfl (ltb rfl) (show nar .char (48 : Int32) = (48 : Int32) from by decide) g234 nb235 d_m4_428 rfl fun T h252 X K253 A254 => ?_
      have A254 : Ar Z h252 a231 .char [(.int (48 : Int32)), (.int (48 : Int32)), (.int (48 : Int32)), (.int (48 : Int32)), (.int (48 : Int32)), (.int (48 : Int32)), (.int (0 : Int32)), (.int (0 : Int32)), (.int (0 : Int32)), (.int (0 : Int32)), (.int (0 : Int32)), (.int (0 : Int32)), (.int (0 : Int32)), (.int (0 : Int32)), (.int (0 : Int32)), (.int (0 : Int32)), (.int (0 : Int32)), (.int (0 : Int32)), (.int (0 : Int32)), (.int (0 : Int32)), (.int (0 : Int32)), (.int (0 : Int32)), (.int (0 : Int32)), (.int (0 : Int32)), (.int (0 : Int32)), (.int (0 : Int32)), (.int (0 : Int32)), (.int (0 : Int32)), (.int (0 : Int32)), (.int (0 : Int32)), (.int (0 : Int32)), (.int (0 : Int32)), (.int (0 : Int32)), (.int (0 : Int32)), (.int (0 : Int32)), (.int (0 : Int32)), (.int (0 : Int32)), (.int (0 : Int32)), (.int (0 : Int32)), (.int (0 : Int32))] := A254
      refine W.dup (pc' := 430) X d_m4_429 rfl rfl ?_
      refine W.bipush (pc' := 432) X (6 : Int32) d_m4_430 (by decide) rfl ?_
      refine W.bipush (pc' := 434) X (48 : Int32) d_m4_432 (by decide) rfl ?_
      refine W.castore (pc' := 435) (i := 6) X A254 (by decide) rfl (ltb rfl) (show nar .char (48 : Int32) = (48 : Int32) from by decide) g234 nb235 d_m4_434 rfl fun T h255 X K256 A257 => ?_
      have A257 : Ar Z h255 a231 .char [(.int (48 : Int32)), (.int (48 : Int32)), (.int (48 : Int32)), (.int (48 : Int32)), (.int (48 : Int32)), (.int (48 : Int32)), (.int (48 : Int32)), (.int (0 : Int32)), (.int (0 : Int32)), (.int (0 : Int32)), (.int (0 : Int32)), (.int (0 : Int32)), (.int (0 : Int32)), (.int (0 : Int32)), (.int (0 : Int32)), (.int (0 : Int32)), (.int (0 : Int32)), (.int (0 : Int32)), (.int (0 : Int32)), (.int (0 : Int32)), (.int (0 : Int32)), (.int (0 : Int32)), (.int (0 : Int32)), (.int (0 : Int32)), (.int (0 : Int32)), (.int (0 : Int32)), (.int (0 : Int32)), (.int (0 : Int32)), (.int (0 : Int32)), (.int (0 : Int32)), (.int (0 : Int32)), (.int (0 : Int32)), (.int (0 : Int32)), (.int (0 : Int32)), (.int (0 : Int32)), (.int (0 : Int32)), (.int (0 : Int32)), (.int (0 : Int32)), (.int (0 : Int32)), (.int (0 : Int32))] := A257
      refine W.dup (pc' := 436) X d_m4_435 rfl rfl ?_
      refine W.bipush (pc' := 438) X (7 : Int32) d_m4_436 (by decide) rfl ?_
      refine W.bipush (pc' := 440) X (48 : Int32) d_m4_438 (by decide) rfl ?_
      refine W.castore (pc' := 441) (i := 7) X A257 (by decide) rfl (ltb rfl) (show nar .char (48 : Int32) = (48 : Int32) from by decide) g234 nb235 d_m4_440 rfl fun T h258 X K259 A260 => ?_
      have A260 : Ar Z h258 a231 .char [(.int (48 : Int32)), (.int (48 : Int32)), (.int (48 : Int32)), (.int (48 : Int32)), (.int (48 : Int32)), (.int (48 : Int32)), (.int (48 : Int32)), (.int (48 : Int32)), (.int (0 : Int32)), (.int (0 : Int32)), (.int (0 : Int32)), (.int (0 : Int32)), (.int (0 : Int32)), (.int (0 : Int32)), (.int (0 : Int32)), (.int (0 : Int32)), (.int (0 : Int32)), (.int (0 : Int32)), (.int (0 : Int32)), (.int (0 : Int32)), (.int (0 : Int32)), (.int (0 : Int32)), (.int (0 : Int32)), (.int (0 : Int32)), (.int (0 : Int32)), (.int (0 : Int32)), (.int (0 : Int32)), (.int (0 : Int32)), (.int (0 : Int32)), (.int (0 : Int32)), (.int (0 : Int32)), (.int (0 : Int32)), (.int (0 : Int32)), (.int (0 : Int32)), (.int (0 : Int32)), (.int (0 : Int32)), (.int (0 : Int32)), (.int (0 : Int32)), (.int (0 : Int32)), (.int (0 : Int32))] := A260
      refine W.dup (pc' := 442) X d_m4_441 rfl rfl ?_
      refine W.bipush (pc' := 444) X (8 : Int32) d_m4_442 (by decide) rfl ?_
      refine W.bipush (pc' := 446) X (48 : Int32) d_m4_444 (by decide) rfl ?_
      refine W.castore (pc' := 447) (i := 8) X A260 (by decide) rfl (ltb rfl) (show nar .char (48 : Int32) = (48 : Int32) from by decide) g234 nb235 d_m4_446 rfl fun T h261 X K262 A263 => ?_
      have A263 : Ar Z h261 a231 .char [(.int (48 : Int32)), (.int (48 : Int32)), (.int (48 : Int32)), (.int (48 : Int32)), (.int (48 : Int32)), (.int (48 : Int32)), (.int (48 : Int32)), (.int (48 : Int32)), (.int (48 : Int32)), (.int (0 : Int32)), (.int (0 : Int32)), (.int (0 : Int32)), (.int (0 : Int32)), (.int (0 : Int32)), (.int (0 : Int32)), (.int (0 : Int32)), (.int (0 : Int32)), (.int (0 : Int32)), (.int (0 : Int32)), (.int (0 : Int32)), (.int (0 : Int32)), (.int (0 : Int32)), (.int (0 : Int32)), (.int (0 : Int32)), (.int (0 : Int32)), (.int (0 : Int32)), (.int (0 : Int32)), (.int (0 : Int32)), (.int (0 : Int32)), (.int (0 : Int32)), (.int (0 : Int32)), (.int (0 : Int32)), (.int (0 : Int32)), (.int (0 : Int32)), (.int (0 : Int32)), (.int (0 : Int32)), (.int (0 : Int32)), (.int (0 : Int32)), (.int (0 : Int32)), (.int (0 : Int32))] := A263
      refine W.dup (pc' := 448) X d_m4_447 rfl rfl ?_
      refine W.bipush (pc' := 450) X (9 : Int32) d_m4_448 (by decide) rfl ?_
      refine W.bipush (pc' := 452) X (48 : Int32) d_m4_450 (by decide) rfl ?_
      refine W.castore (pc' := 453) (i := 9) X A263 (by decide) rfl (ltb rfl) (show nar .char (48 : Int32) = (48 : Int32) from by decide) g234 nb235 d_m4_452 rfl fun T h264 X K265 A266 => ?_
      have A266 : Ar Z h264 a231 .char [(.int (48 : Int32)), (.int (48 : Int32)), (.int (48 : Int32)), (.int (48 : Int32)), (.int (48 : Int32)), (.int (48 : Int32)), (.int (48 : Int32)), (.int (48 : Int32)), (.int (48 : Int32)), (.int (48 : Int32)), (.int (0 : Int32)), (.int (0 : Int32)), (.int (0 : Int32)), (.int (0 : Int32)), (.int (0 : Int32)), (.int (0 : Int32)), (.int (0 : Int32)), (.int (0 : Int32)), (.int (0 : Int32)), (.int (0 : Int32)), (.int (0 : Int32)), (.int (0 : Int32)), (.int (0 : Int32)), (.int (0 : Int32)), (.int (0 : Int32)), (.int (0 : Int32)), (.int (0 : Int32)), (.int (0 : Int32)), (.int (0 : Int32)), (.int (0 : Int32)), (.int (0 : Int32)), (.int (0 : Int32)), (.int (0 : Int32)), (.int (0 : Int32)), (.int (0 : Int32)), (.int (0 : Int32)), (.int (0 : Int32)), (.int (0 : Int32)), (.int (0 : Int32)), (.int (0 : Int32))] := A266
      refine W.dup (pc' := 454) X d_m4_453 rfl rfl ?_
      refine W.bipush (pc' := 456) X (10 : Int32) d_m4_454 (by decide) rfl ?_
      refine W.bipush (pc' := 458) X (48 : Int32) d_m4_456 (by decide) rfl ?_
      refine W.castore (pc' := 459) (i := 10) X A266 (by decide) rfl (ltb rfl) (show nar .char (48 : Int32) = (48 : Int32) from by decide) g234 nb235 d_m4_458 rfl fun T h267 X K268 A269 => ?_
      have A269 : Ar Z h267 a231 .char [(.int (48 : Int32)), (.int (48 : Int32)), (.int (48 : Int32)), (.int (48 : Int32)), (.int (48 : Int32)), (.int (48 : Int32)), (.int (48 : Int32)), (.int (48 : Int32)), (.int (48 : Int32)), (.int (48 : Int32)), (.int (48 : Int32)), (.int (0 : Int32)), (.int (0 : Int32)), (.int (0 : Int32)), (.int (0 : Int32)), (.int (0 : Int32)), (.int (0 : Int32)), (.int (0 : Int32)), (.int (0 : Int32)), (.int (0 : Int32)), (.int (0 : Int32)), (.int (0 : Int32)), (.int (0 : Int32)), (.int (0 : Int32)), (.int (0 : Int32)), (.int (0 : Int32)), (.int (0 : Int32)), (.int (0 : Int32)), (.int (0 : Int32)), (.int (0 : Int32)), (.int (0 : Int32)), (.int (0 : Int32)), (.int (0 : Int32)), (.int (0 : Int32)), (.int (0 : Int32)), (.int (0 : Int32)), (.int (0 : Int32)), (.int (0 : Int32)), (.int (0 : Int32)), (.int (0 : Int32))] := A269
      refine W.dup (pc' := 460) X d_m4_459 rfl rfl ?_
      refine W.bipush (pc' := 462) X (11 : Int32) d_m4_460 (by decide) rfl ?_
      refine W.bipush (pc' := 464) X (48 : Int32) d_m4_462 (by decide) rfl ?_
      refine W.castore (pc' := 465) (i := 11) X A269 (by decide) rfl (ltb rfl) (show nar .char (48 : Int32) = (48 : Int32) from by decide) g234 nb235 d_m4_464 rfl fun T h270 X K271 A272 => ?_
      have A272 : Ar Z h270 a231 .char [(.int (48 : Int32)), (.int (48 : Int32)), (.int (48 : Int32)), (.int (48 : Int32)), (.int (48 : Int32)), (.int (48 : Int32)), (.int (48 : Int32)), (.int (48 : Int32)), (.int (48 : Int32)), (.int (48 : Int32)), (.int (48 : Int32)), (.int (48 : Int32)), (.int (0 : Int32)), (.int (0 : Int32)), (.int (0 : Int32)), (.int (0 : Int32)), (.int (0 : Int32)), (.int (0 : Int32)), (.int (0 : Int32)), (.int (0 : Int32)), (.int (0 : Int32)), (.int (0 : Int32)), (.int (0 : Int32)), (.int (0 : Int32)), (.int (0 : Int32)), (.int (0 : Int32)), (.int (0 : Int32)), (.int (0 : Int32)), (.int (0 : Int32)), (.int (0 : Int32)), (.int (0 : Int32)), (.int (0 : Int32)), (.int (0 : Int32)), (.int (0 : Int32)), (.int (0 : Int32)), (.int (0 : Int32)), (.int (0 : Int32)), (.int (0 : Int32)), (.int (0 : Int32)), (.int (0 : Int32))] := A272
      refine W.dup (pc' := 466) X d_m4_465 rfl rfl ?_
      refine W.bipush (pc' := 468) X (12 : Int32) d_m4_466 (by decide) rfl ?_
      refine W.bipush (pc' := 470) X (48 : Int32) d_m4_468 (by decide) rfl ?_
      refine W.castore (pc' := 471) (i := 12) X A272 (by decide) rfl (ltb rfl) (show nar .char (48 : Int32) = (48 : Int32) from by decide) g234 nb235 d_m4_470 rfl fun T h273 X K274 A275 => ?_
      have A275 : Ar Z h273 a231 .char [(.int (48 : Int32)), (.int (48 : Int32)), (.int (48 : Int32)), (.int (48 : Int32)), (.int (48 : Int32)), (.int (48 : Int32)), (.int (48 : Int32)), (.int (48 : Int32)), (.int (48 : Int32)), (.int (48 : Int32)), (.int (48 : Int32)), (.int (48 : Int32)), (.int (48 : Int32)), (.int (0 : Int32)), (.int (0 : Int32)), (.int (0 : Int32)), (.int (0 : Int32)), (.int (0 : Int32)), (.int (0 : Int32)), (.int (0 : Int32)), (.int (0 : Int32)), (.int (0 : Int32)), (.int (0 : Int32)), (.int (0 : Int32)), (.int (0 : Int32)), (.int (0 : Int32)), (.int (0 : Int32)), (.int (0 : Int32)), (.int (0 : Int32)), (.int (0 : Int32)), (.int (0 : Int32)), (.int (0 : Int32)), (.int (0 : Int32)), (.int (0 : Int32)), (.int (0 : Int32)), (.int (0 : Int32)), (.int (0 : Int32)), (.int (0 : Int32)), (.int (0 : Int32)), (.int (0 : Int32))] := A275
      refine W.dup (pc' := 472) X d_m4_471 rfl rfl ?_
      refine W.bipush (pc' := 474) X (13 : Int32) d_m4_472 (by decide) rfl ?_
      refine W.bipush (pc' := 476) X (48 : Int32) d_m4_474 (by decide) rfl ?_
      refine W.castore (pc' := 477) (i := 13) X A275 (by decide) rfl (ltb rfl) (show nar .char (48 : Int32) = (48 : Int32) from by decide) g234 nb235 d_m4_476 rfl fun T h276 X K277 A278 => ?_
      have A278 : Ar Z h276 a231 .char [(.int (48 : Int32)), (.int (48 : Int32)), (.int (48 : Int32)), (.int (48 : Int32)), (.int (48 : Int32)), (.int (48 : Int32)), (.int (48 : Int32)), (.int (48 : Int32)), (.int (48 : Int32)), (.int (48 : Int32)), (.int (48 : Int32)), (.int (48 : Int32)), (.int (48 : Int32)), (.int (48 : Int32)), (.int (0 : Int32)), (.int (0 : Int32)), (.int (0 : Int32)), (.int (0 : Int32)), (.int (0 : Int32)), (.int (0 : Int32)), (.int (0 : Int32)), (.int (0 : Int32)), (.int (0 : Int32)), (.int (0 : Int32)), (.int (0 : Int32)), (.int (0 : Int32)), (.int (0 : Int32)), (.int (0 : Int32)), (.int (0 : Int32)), (.int (0 : Int32)), (.int (0 : Int32)), (.int (0 : Int32)), (.int (0 : Int32)), (.int (0 : Int32)), (.int (0 : Int32)), (.int (0 : Int32)), (.int (0 : Int32)), (.int (0 : Int32)), (.int (0 : Int32)), (.int (0 : Int32))] := A278
      refine W.dup (pc' := 478) X d_m4_477 rfl rfl ?_
      refine W.bipush (pc' := 480) X (14 : Int32) d_m4_478 (by decide) rfl ?_
      refine W.bipush (pc' := 482) X (48 : Int32) d_m4_480 (by decide) rfl ?_
      refine W.castore (pc' := 483) (i := 14) X A278 (by decide) rfl (ltb rfl) (show nar .char (48 : Int32) = (48 : Int32) from by decide) g234 nb235 d_m4_482 rfl fun T h279 X K280 A281 => ?_
      have A281 : Ar Z h279 a231 .char [(.int (48 : Int32)), (.int (48 : Int32)), (.int (48 : Int32)), (.int (48 : Int32)), (.int (48 : Int32)), (.int (48 : Int32)), (.int (48 : Int32)), (.int (48 : Int32)), (.int (48 : Int32)), (.int (48 : Int32)), (.int (48 : Int32)), (.int (48 : Int32)), (.int (48 : Int32)), (.int (48 : Int32)), (.int (48 : Int32)), (.int (0 : Int32)), (.int (0 : Int32)), (.int (0 : Int32)), (.int (0 : Int32)), (.int (0 : Int32)), (.int (0 : Int32)), (.int (0 : Int32)), (.int (0 : Int32)), (.int (0 : Int32)), (.int (0 : Int32)), (.int (0 : Int32)), (.int (0 : Int32)), (.int (0 : Int32)), (.int (0 : Int32)), (.int (0 : Int32)), (.int (0 : Int32)), (.int (0 : Int32)), (.int (0 : Int32)), (.int (0 : Int32)), (.int (0 : Int32)), (.int (0 : Int32)), (.int (0 : Int32)), (.int (0 : Int32)), (.int (0 : Int32)), (.int (0 : Int32))] := A281
      refine W.dup (pc' := 484) X d_m4_483 rfl rfl ?_
      refine W.bipush (pc' := 486) X (15 : Int32) d_m4_484 (by decide) rfl ?_
      refine W.bipush (pc' := 488) X (48 : Int32) d_m4_486 (by decide) rfl ?_
      refine W.castore (pc' := 489) (i := 15) X A281 (by decide) rfl (ltb rfl) (show nar .char (48 : Int32) = (48 : Int32) from by decide) g234 nb235 d_m4_488 rfl fun T h282 X K283 A284 => ?_
      have A284 : Ar Z h282 a231 .char [(.int (48 : Int32)), (.int (48 : Int32)), (.int (48 : Int32)), (.int (48 : Int32)), (.int (48 : Int32)), (.int (48 : Int32)), (.int (48 : Int32)), (.int (48 : Int32)), (.int (48 : Int32)), (.int (48 : Int32)), (.int (48 : Int32)), (.int (48 : Int32)), (.int (48 : Int32)), (.int (48 : Int32)), (.int (48 : Int32)), (.int (48 : Int32)), (.int (0 : Int32)), (.int (0 : Int32)), (.int (0 : Int32)), (.int (0 : Int32)), (.int (0 : Int32)), (.int (0 : Int32)), (.int (0 : Int32)), (.int (0 : Int32)), (.int (0 : Int32)), (.int (0 : Int32)), (.int (0 : Int32)), (.int (0 : Int32)), (.int (0 : Int32)), (.int (0 : Int32)), (.int (0 : Int32)), (.int (0 : Int32)), (.int (0 : Int32)), (.int (0 : Int32)), (.int (0 : Int32)), (.int (0 : Int32)), (.int (0 : Int32)), (.int (0 : Int32)), (.int (0 : Int32)), (.int (0 : Int32))] := A284
      refine W.dup (pc' := 490) X d_m4_489 rfl rfl ?_
      refine W.bipush (pc' := 492) X (16 : Int32) d_m4_490 (by decide) rfl ?_
      refine W.bipush (pc' := 494) X (48 : Int32) d_m4_492 (by decide) rfl ?_
      refine W.castore (pc' := 495) (i := 16) X A284 (by decide) rfl (ltb rfl) (show nar .char (48 : Int32) = (48 : Int32) from by decide) g234 nb235 d_m4_494 rfl fun T h285 X K286 A287 => ?_
      have A287 : Ar Z h285 a231 .char [(.int (48 : Int32)), (.int (48 : Int32)), (.int (48 : Int32)), (.int (48 : Int32)), (.int (48 : Int32)), (.int (48 : Int32)), (.int (48 : Int32)), (.int (48 : Int32)), (.int (48 : Int32)), (.int (48 : Int32)), (.int (48 : Int32)), (.int (48 : Int32)), (.int (48 : Int32)), (.int (48 : Int32)), (.int (48 : Int32)), (.int (48 : Int32)), (.int (48 : Int32)), (.int (0 : Int32)), (.int (0 : Int32)), (.int (0 : Int32)), (.int (0 : Int32)), (.int (0 : Int32)), (.int (0 : Int32)), (.int (0 : Int32)), (.int (0 : Int32)), (.int (0 : Int32)), (.int (0 : Int32)), (.int (0 : Int32)), (.int (0 : Int32)), (.int (0 : Int32)), (.int (0 : Int32)), (.int (0 : Int32)), (.int (0 : Int32)), (.int (0 : Int32)), (.int (0 : Int32)), (.int (0 : Int32)), (.int (0 : Int32)), (.int (0 : Int32)), (.int (0 : Int32)), (.int (0 : Int32))] := A287
      refine W.dup (pc' := 496) X d_m4_495 rfl rfl ?_
      refine W.bipush (pc' := 498) X (17 : Int32) d_m4_496 (by decide) rfl ?_
      refine W.bipush (pc' := 500) X (48 : Int32) d_m4_498 (by decide) rfl ?_
      refine W.castore (pc' := 501) (i := 17) X A287 (by decide) rfl (ltb rfl) (show nar .char (48 : Int32) = (48 : Int32) from by decide) g234 nb235 d_m4_500 rfl fun T h288 X K289 A290 => ?_
      have A290 : Ar Z h288 a231 .char [(.int (48 : Int32)), (.int (48 : Int32)), (.int (48 : Int32)), (.int (48 : Int32)), (.int (48 : Int32)), (.int (48 : Int32)), (.int (48 : Int32)), (.int (48 : Int32)), (.int (48 : Int32)), (.int (48 : Int32)), (.int (48 : Int32)), (.int (48 : Int32)), (.int (48 : Int32)), (.int (48 : Int32)), (.int (48 : Int32)), (.int (48 : Int32)), (.int (48 : Int32)), (.int (48 : Int32)), (.int (0 : Int32)), (.int (0 : Int32)), (.int (0 : Int32)), (.int (0 : Int32)), (.int (0 : Int32)), (.int (0 : Int32)), (.int (0 : Int32)), (.int (0 : Int32)), (.int (0 : Int32)), (.int (0 : Int32)), (.int (0 : Int32)), (.int (0 : Int32)), (.int (0 : Int32)), (.int (0 : Int32)), (.int (0 : Int32)), (.int (0 : Int32)), (.int (0 : Int32)), (.int (0 : Int32)), (.int (0 : Int32)), (.int (0 : Int32)), (.int (0 : Int32)), (.int (0 : Int32))] := A290
      refine W.dup (pc' := 502) X d_m4_501 rfl rfl ?_
      refine W.bipush (pc' := 504) X (18 : Int32) d_m4_502 (by decide) rfl ?_
      refine W.bipush (pc' := 506) X (48 : Int32) d_m4_504 (by decide) rfl ?_
      refine W.castore (pc' := 507) (i := 18) X A290 (by decide) rfl (ltb rfl) (show nar .char (48 : Int32) = (48 : Int32) from by decide) g234 nb235 d_m4_506 rfl fun T h291 X K292 A293 => ?_
      have A293 : Ar Z h291 a231 .char [(.int (48 : Int32)), (.int (48 : Int32)), (.int (48 : Int32)), (.int (48 : Int32)), (.int (48 : Int32)), (.int (48 : Int32)), (.int (48 : Int32)), (.int (48 : Int32)), (.int (48 : Int32)), (.int (48 : Int32)), (.int (48 : Int32)), (.int (48 : Int32)), (.int (48 : Int32)), (.int (48 : Int32)), (.int (48 : Int32)), (.int (48 : Int32)), (.int (48 : Int32)), (.int (48 : Int32)), (.int (48 : Int32)), (.int (0 : Int32)), (.int (0 : Int32)), (.int (0 : Int32)), (.int (0 : Int32)), (.int (0 : Int32)), (.int (0 : Int32)), (.int (0 : Int32)), (.int (0 : Int32)), (.int (0 : Int32)), (.int (0 : Int32)), (.int (0 : Int32)), (.int (0 : Int32)), (.int (0 : Int32)), (.int (0 : Int32)), (.int (0 : Int32)), (.int (0 : Int32)), (.int (0 : Int32)), (.int (0 : Int32)), (.int (0 : Int32)), (.int (0 : Int32)), (.int (0 : Int32))] := A293
      refine W.dup (pc' := 508) X d_m4_507 rfl rfl ?_
      refine W.bipush (pc' := 510) X (19 : Int32) d_m4_508 (by decide) rfl ?_
      refine W.bipush (pc' := 512) X (48 : Int32) d_m4_510 (by decide) rfl ?_
      refine W.castore (pc' := 513) (i := 19) X A293 (by decide) rfl (ltb rfl) (show nar .char (48 : Int32) = (48 : Int32) from by decide) g234 nb235 d_m4_512 rfl fun T h294 X K295 A296 => ?_
      have A296 : Ar Z h294 a231 .char [(.int (48 : Int32)), (.int (48 : Int32)), (.int (48 : Int32)), (.int (48 : Int32)), (.int (48 : Int32)), (.int (48 : Int32)), (.int (48 : Int32)), (.int (48 : Int32)), (.int (48 : Int32)), (.int (48 : Int32)), (.int (48 : Int32)), (.int (48 : Int32)), (.int (48 : Int32)), (.int (48 : Int32)), (.int (48 : Int32)), (.int (48 : Int32)), (.int (48 : Int32)), (.int (48 : Int32)), (.int (48 : Int32)), (.int (48 : Int32)), (.int (0 : Int32)), (.int (0 : Int32)), (.int (0 : Int32)), (.int (0 : Int32)), (.int (0 : Int32)), (.int (0 : Int32)), (.int (0 : Int32)), (.int (0 : Int32)), (.int (0 : Int32)), (.int (0 : Int32)), (.int (0 : Int32)), (.int (0 : Int32)), (.int (0 : Int32)), (.int (0 : Int32)), (.int (0 : Int32)), (.int (0 : Int32)), (.int (0 : Int32)), (.int (0 : Int32)), (.int (0 : Int32)), (.int (0 : Int32))] := A296
      refine W.dup (pc' := 514) X d_m4_513 rfl rfl ?_
      refine W.bipush (pc' := 516) X (20 : Int32) d_m4_514 (by decide) rfl ?_
      refine W.bipush (pc' := 518) X (48 : Int32) d_m4_516 (by decide) rfl ?_
      refine W.castore (pc' := 519) (i := 20) X A296 (by decide) rfl (ltb rfl) (show nar .char (48 : Int32) = (48 : Int32) from by decide) g234 nb235 d_m4_518 rfl fun T h297 X K298 A299 => ?_
      have A299 : Ar Z h297 a231 .char [(.int (48 : Int32)), (.int (48 : Int32)), (.int (48 : Int32)), (.int (48 : Int32)), (.int (48 : Int32)), (.int (48 : Int32)), (.int (48 : Int32)), (.int (48 : Int32)), (.int (48 : Int32)), (.int (48 : Int32)), (.int (48 : Int32)), (.int (48 : Int32)), (.int (48 : Int32)), (.int (48 : Int32)), (.int (48 : Int32)), (.int (48 : Int32)), (.int (48 : Int32)), (.int (48 : Int32)), (.int (48 : Int32)), (.int (48 : Int32)), (.int (48 : Int32)), (.int (0 : Int32)), (.int (0 : Int32)), (.int (0 : Int32)), (.int (0 : Int32)), (.int (0 : Int32)), (.int (0 : Int32)), (.int (0 : Int32)), (.int (0 : Int32)), (.int (0 : Int32)), (.int (0 : Int32)), (.int (0 : Int32)), (.int (0 : Int32)), (.int (0 : Int32)), (.int (0 : Int32)), (.int (0 : Int32)), (.int (0 : Int32)), (.int (0 : Int32)), (.int (0 : Int32)), (.int (0 : Int32))] := A299
      refine W.dup (pc' := 520) X d_m4_519 rfl rfl ?_
      refine W.bipush (pc' := 522) X (21 : Int32) d_m4_520 (by decide) rfl ?_
      refine W.bipush (pc' := 524) X (48 : Int32) d_m4_522 (by decide) rfl ?_
      refine W.castore (pc' := 525) (i := 21) X A299 (by decide) rfl (ltb rfl) (show nar .char (48 : Int32) = (48 : Int32) from by decide) g234 nb235 d_m4_524 rfl fun T h300 X K301 A302 => ?_
      have A302 : Ar Z h300 a231 .char [(.int (48 : Int32)), (.int (48 : Int32)), (.int (48 : Int32)), (.int (48 : Int32)), (.int (48 : Int32)), (.int (48 : Int32)), (.int (48 : Int32)), (.int (48 : Int32)), (.int (48 : Int32)), (.int (48 : Int32)), (.int (48 : Int32)), (.int (48 : Int32)), (.int (48 : Int32)), (.int (48 : Int32)), (.int (48 : Int32)), (.int (48 : Int32)), (.int (48 : Int32)), (.int (48 : Int32)), (.int (48 : Int32)), (.int (48 : Int32)), (.int (48 : Int32)), (.int (48 : Int32)), (.int (0 : Int32)), (.int (0 : Int32)), (.int (0 : Int32)), (.int (0 : Int32)), (.int (0 : Int32)), (.int (0 : Int32)), (.int (0 : Int32)), (.int (0 : Int32)), (.int (0 : Int32)), (.int (0 : Int32)), (.int (0 : Int32)), (.int (0 : Int32)), (.int (0 : Int32)), (.int (0 : Int32)), (.int (0 : Int32)), (.int (0 : Int32)), (.int (0 : Int32)), (.int (0 : Int32))] := A302
      refine W.dup (pc' := 526) X d_m4_525 rfl rfl ?_
      refine W.bipush (pc' := 528) X (22 : Int32) d_m4_526 (by decide) rfl ?_
      refine W.bipush (pc' := 530) X (48 : Int32) d_m4_528 (by decide) rfl ?_
      refine W.castore (pc' := 531) (i := 22) X A302 (by decide) rfl (ltb rfl) (show nar .char (48 : Int32) = (48 : Int32) from by decide) g234 nb235 d_m4_530 rfl fun T h303 X K304 A305 => ?_
      have A305 : Ar Z h303 a231 .char [(.int (48 : Int32)), (.int (48 : Int32)), (.int (48 : Int32)), (.int (48 : Int32)), (.int (48 : Int32)), (.int (48 : Int32)), (.int (48 : Int32)), (.int (48 : Int32)), (.int (48 : Int32)), (.int (48 : Int32)), (.int (48 : Int32)), (.int (48 : Int32)), (.int (48 : Int32)), (.int (48 : Int32)), (.int (48 : Int32)), (.int (48 : Int32)), (.int (48 : Int32)), (.int (48 : Int32)), (.int (48 : Int32)), (.int (48 : Int32)), (.int (48 : Int32)), (.int (48 : Int32)), (.int (48 : Int32)), (.int (0 : Int32)), (.int (0 : Int32)), (.int (0 : Int32)), (.int (0 : Int32)), (.int (0 : Int32)), (.int (0 : Int32)), (.int (0 : Int32)), (.int (0 : Int32)), (.int (0 : Int32)), (.int (0 : Int32)), (.int (0 : Int32)), (.int (0 : Int32)), (.int (0 : Int32)), (.int (0 : Int32)), (.int (0 : Int32)), (.int (0 : Int32)), (.int (0 : Int32))] := A305
      refine W.dup (pc' := 532) X d_m4_531 rfl rfl ?_
      refine W.bipush (pc' := 534) X (23 : Int32) d_m4_532 (by decide) rfl ?_
      refine W.bipush (pc' := 536) X (48 : Int32) d_m4_534 (by decide) rfl ?_
      refine W.castore (pc' := 537) (i := 23) X A305 (by decide) rfl (ltb rfl) (show nar .char (48 : Int32) = (48 : Int32) from by decide) g234 nb235 d_m4_536 rfl fun T h306 X K307 A308 => ?_
      have A308 : Ar Z h306 a231 .char [(.int (48 : Int32)), (.int (48 : Int32)), (.int (48 : Int32)), (.int (48 : Int32)), (.int (48 : Int32)), (.int (48 : Int32)), (.int (48 : Int32)), (.int (48 : Int32)), (.int (48 : Int32)), (.int (48 : Int32)), (.int (48 : Int32)), (.int (48 : Int32)), (.int (48 : Int32)), (.int (48 : Int32)), (.int (48 : Int32)), (.int (48 : Int32)), (.int (48 : Int32)), (.int (48 : Int32)), (.int (48 : Int32)), (.int (48 : Int32)), (.int (48 : Int32)), (.int (48 : Int32)), (.int (48 : Int32)), (.int (48 : Int32)), (.int (0 : Int32)), (.int (0 : Int32)), (.int (0 : Int32)), (.int (0 : Int32)), (.int (0 : Int32)), (.int (0 : Int32)), (.int (0 : Int32)), (.int (0 : Int32)), (.int (0 : Int32)), (.int (0 : Int32)), (.int (0 : Int32)), (.int (0 : Int32)), (.int (0 : Int32)), (.int (0 : Int32)), (.int (0 : Int32)), (.int (0 : Int32))] := A308
      refine W.dup (pc' := 538) X d_m4_537 rfl rfl ?_
      refine W.bipush (pc' := 540) X (24 : Int32) d_m4_538 (by decide) rfl ?_
      refine W.bipush (pc' := 542) X (48 : Int32) d_m4_540 (by decide) rfl ?_
      refine W.castore (pc' := 543) (i := 24) X A308 (by decide) rfl (ltb rfl) (show nar .char (48 : Int32) = (48 : Int32) from by decide) g234 nb235 d_m4_542 rfl fun T h309 X K310 A311 => ?_
      have A311 : Ar Z h309 a231 .char [(.int (48 : Int32)), (.int (48 : Int32)), (.int (48 : Int32)), (.int (48 : Int32)), (.int (48 : Int32)), (.int (48 : Int32)), (.int (48 : Int32)), (.int (48 : Int32)), (.int (48 : Int32)), (.int (48 : Int32)), (.int (48 : Int32)), (.int (48 : Int32)), (.int (48 : Int32)), (.int (48 : Int32)), (.int (48 : Int32)), (.int (48 : Int32)), (.int (48 : Int32)), (.int (48 : Int32)), (.int (48 : Int32)), (.int (48 : Int32)), (.int (48 : Int32)), (.int (48 : Int32)), (.int (48 : Int32)), (.int (48 : Int32)), (.int (48 : Int32)), (.int (0 : Int32)), (.int (0 : Int32)), (.int (0 : Int32)), (.int (0 : Int32)), (.int (0 : Int32)), (.int (0 : Int32)), (.int (0 : Int32)), (.int (0 : Int32)), (.int (0 : Int32)), (.int (0 : Int32)), (.int (0 : Int32)), (.int (0 : Int32)), (.int (0 : Int32)), (.int (0 : Int32)), (.int (0 : Int32))] := A311
      refine W.dup (pc' := 544) X d_m4_543 rfl rfl ?_
      refine W.bipush (pc' := 546) X (25 : Int32) d_m4_544 (by decide) rfl ?_
      refine W.bipush (pc' := 548) X (48 : Int32) d_m4_546 (by decide) rfl ?_
      refine W.castore (pc' := 549) (i := 25) X A311 (by decide) rfl (ltb rfl) (show nar .char (48 : Int32) = (48 : Int32) from by decide) g234 nb235 d_m4_548 rfl fun T h312 X K313 A314 => ?_
      have A314 : Ar Z h312 a231 .char [(.int (48 : Int32)), (.int (48 : Int32)), (.int (48 : Int32)), (.int (48 : Int32)), (.int (48 : Int32)), (.int (48 : Int32)), (.int (48 : Int32)), (.int (48 : Int32)), (.int (48 : Int32)), (.int (48 : Int32)), (.int (48 : Int32)), (.int (48 : Int32)), (.int (48 : Int32)), (.int (48 : Int32)), (.int (48 : Int32)), (.int (48 : Int32)), (.int (48 : Int32)), (.int (48 : Int32)), (.int (48 : Int32)), (.int (48 : Int32)), (.int (48 : Int32)), (.int (48 : Int32)), (.int (48 : Int32)), (.int (48 : Int32)), (.int (48 : Int32)), (.int (48 : Int32)), (.int (0 : Int32)), (.int (0 : Int32)), (.int (0 : Int32)), (.int (0 : Int32)), (.int (0 : Int32)), (.int (0 : Int32)), (.int (0 : Int32)), (.int (0 : Int32)), (.int (0 : Int32)), (.int (0 : Int32)), (.int (0 : Int32)), (.int (0 : Int32)), (.int (0 : Int32)), (.int (0 : Int32))] := A314
      refine W.dup (pc' := 550) X d_m4_549 rfl rfl ?_
      refine W.bipush (pc' := 552) X (26 : Int32) d_m4_550 (by decide) rfl ?_
      refine W.bipush (pc' := 554) X (48 : Int32) d_m4_552 (by decide) rfl ?_
      refine W.castore (pc' := 555) (i := 26) X A314 (by decide) rfl (ltb rfl) (show nar .char (48 : Int32) = (48 : Int32) from by decide) g234 nb235 d_m4_554 rfl fun T h315 X K316 A317 => ?_
      have A317 : Ar Z h315 a231 .char [(.int (48 : Int32)), (.int (48 : Int32)), (.int (48 : Int32)), (.int (48 : Int32)), (.int (48 : Int32)), (.int (48 : Int32)), (.int (48 : Int32)), (.int (48 : Int32)), (.int (48 : Int32)), (.int (48 : Int32)), (.int (48 : Int32)), (.int (48 : Int32)), (.int (48 : Int32)), (.int (48 : Int32)), (.int (48 : Int32)), (.int (48 : Int32)), (.int (48 : Int32)), (.int (48 : Int32)), (.int (48 : Int32)), (.int (48 : Int32)), (.int (48 : Int32)), (.int (48 : Int32)), (.int (48 : Int32)), (.int (48 : Int32)), (.int (48 : Int32)), (.int (48 : Int32)), (.int (48 : Int32)), (.int (0 : Int32)), (.int (0 : Int32)), (.int (0 : Int32)), (.int (0 : Int32)), (.int (0 : Int32)), (.int (0 : Int32)), (.int (0 : Int32)), (.int (0 : Int32)), (.int (0 : Int32)), (.int (0 : Int32)), (.int (0 : Int32)), (.int (0 : Int32)), (.int (0 : Int32))] := A317
      refine W.dup (pc' := 556) X d_m4_555 rfl rfl ?_
      refine W.bipush (pc' := 558) X (27 : Int32) d_m4_556 (by decide) rfl ?_
      refine W.bipush (pc' := 560) X (48 : Int32) d_m4_558 (by decide) rfl ?_
      refine W.castore (pc' := 561) (i := 27) X A317 (by decide) rfl (ltb rfl) (show nar .char (48 : Int32) = (48 : Int32) from by decide) g234 nb235 d_m4_560 rfl fun T h318 X K319 A320 => ?_
      have A320 : Ar Z h318 a231 .char [(.int (48 : Int32)), (.int (48 : Int32)), (.int (48 : Int32)), (.int (48 : Int32)), (.int (48 : Int32)), (.int (48 : Int32)), (.int (48 : Int32)), (.int (48 : Int32)), (.int (48 : Int32)), (.int (48 : Int32)), (.int (48 : Int32)), (.int (48 : Int32)), (.int (48 : Int32)), (.int (48 : Int32)), (.int (48 : Int32)), (.int (48 : Int32)), (.int (48 : Int32)), (.int (48 : Int32)), (.int (48 : Int32)), (.int (48 : Int32)), (.int (48 : Int32)), (.int (48 : Int32)), (.int (48 : Int32)), (.int (48 : Int32)), (.int (48 : Int32)), (.int (48 : Int32)), (.int (48 : Int32)), (.int (48 : Int32)), (.int (0 : Int32)), (.int (0 : Int32)), (.int (0 : Int32)), (.int (0 : Int32)), (.int (0 : Int32)), (.int (0 : Int32)), (.int (0 : Int32)), (.int (0 : Int32)), (.int (0 : Int32)), (.int (0 : Int32)), (.int (0 : Int32)), (.int (0 : Int32))] := A320
      refine W.dup (pc' := 562) X d_m4_561 rfl rfl ?_
      refine W.bipush (pc' := 564) X (28 : Int32) d_m4_562 (by decide) rfl ?_
      refine W.bipush (pc' := 566) X (48 : Int32) d_m4_564 (by decide) rfl ?_
      refine W.castore (pc' := 567) (i := 28) X A320 (by decide) rfl (ltb rfl) (show nar .char (48 : Int32) = (48 : Int32) from by decide) g234 nb235 d_m4_566 rfl fun T h321 X K322 A323 => ?_
      have A323 : Ar Z h321 a231 .char [(.int (48 : Int32)), (.int (48 : Int32)), (.int (48 : Int32)), (.int (48 : Int32)), (.int (48 : Int32)), (.int (48 : Int32)), (.int (48 : Int32)), (.int (48 : Int32)), (.int (48 : Int32)), (.int (48 : Int32)), (.int (48 : Int32)), (.int (48 : Int32)), (.int (48 : Int32)), (.int (48 : Int32)), (.int (48 : Int32)), (.int (48 : Int32)), (.int (48 : Int32)), (.int (48 : Int32)), (.int (48 : Int32)), (.int (48 : Int32)), (.int (48 : Int32)), (.int (48 : Int32)), (.int (48 : Int32)), (.int (48 : Int32)), (.int (48 : Int32)), (.int (48 : Int32)), (.int (48 : Int32)), (.int (48 : Int32)), (.int (48 : Int32)), (.int (0 : Int32)), (.int (0 : Int32)), (.int (0 : Int32)), (.int (0 : Int32)), (.int (0 : Int32)), (.int (0 : Int32)), (.int (0 : Int32)), (.int (0 : Int32)), (.int (0 : Int32)), (.int (0 : Int32)), (.int (0 : Int32))] := A323
      refine W.dup (pc' := 568) X d_m4_567 rfl rfl ?_
      refine W.bipush (pc' := 570) X (29 : Int32) d_m4_568 (by decide) rfl ?_
      refine W.bipush (pc' := 572) X (48 : Int32) d_m4_570 (by decide) rfl ?_
      refine W.castore (pc' := 573) (i := 29) X A323 (by decide) rfl (ltb rfl) (show nar .char (48 : Int32) = (48 : Int32) from by decide) g234 nb235 d_m4_572 rfl fun T h324 X K325 A326 => ?_
      have A326 : Ar Z h324 a231 .char [(.int (48 : Int32)), (.int (48 : Int32)), (.int (48 : Int32)), (.int (48 : Int32)), (.int (48 : Int32)), (.int (48 : Int32)), (.int (48 : Int32)), (.int (48 : Int32)), (.int (48 : Int32)), (.int (48 : Int32)), (.int (48 : Int32)), (.int (48 : Int32)), (.int (48 : Int32)), (.int (48 : Int32)), (.int (48 : Int32)), (.int (48 : Int32)), (.int (48 : Int32)), (.int (48 : Int32)), (.int (48 : Int32)), (.int (48 : Int32)), (.int (48 : Int32)), (.int (48 : Int32)), (.int (48 : Int32)), (.int (48 : Int32)), (.int (48 : Int32)), (.int (48 : Int32)), (.int (48 : Int32)), (.int (48 : Int32)), (.int (48 : Int32)), (.int (48 : Int32)), (.int (0 : Int32)), (.int (0 : Int32)), (.int (0 : Int32)), (.int (0 : Int32)), (.int (0 : Int32)), (.int (0 : Int32)), (.int (0 : Int32)), (.int (0 : Int32)), (.int (0 : Int32)), (.int (0 : Int32))] := A326
      refine W.dup (pc' := 574) X d_m4_573 rfl rfl ?_
      refine W.bipush (pc' := 576) X (30 : Int32) d_m4_574 (by decide) rfl ?_
      refine W.bipush (pc' := 578) X (48 : Int32) d_m4_576 (by decide) rfl ?_
      refine W.castore (pc' := 579) (i := 30) X A326 (by decide) rfl (ltb rfl) (show nar .char (48 : Int32) = (48 : Int32) from by decide) g234 nb235 d_m4_578 rfl fun T h327 X K328 A329 => ?_
      have A329 : Ar Z h327 a231 .char [(.int (48 : Int32)), (.int (48 : Int32)), (.int (48 : Int32)), (.int (48 : Int32)), (.int (48 : Int32)), (.int (48 : Int32)), (.int (48 : Int32)), (.int (48 : Int32)), (.int (48 : Int32)), (.int (48 : Int32)), (.int (48 : Int32)), (.int (48 : Int32)), (.int (48 : Int32)), (.int (48 : Int32)), (.int (48 : Int32)), (.int (48 : Int32)), (.int (48 : Int32)), (.int (48 : Int32)), (.int (48 : Int32)), (.int (48 : Int32)), (.int (48 : Int32)), (.int (48 : Int32)), (.int (48 : Int32)), (.int (48 : Int32)), (.int (48 : Int32)), (.int (48 : Int32)), (.int (48 : Int32)), (.int (48 : Int32)), (.int (48 : Int32)), (.int (48 : Int32)), (.int (48 : Int32)), (.int (0 : Int32)), (.int (0 : Int32)), (.int (0 : Int32)), (.int (0 : Int32)), (.int (0 : Int32)), (.int (0 : Int32)), (.int (0 : Int32)), (.int (0 : Int32)), (.int (0 : Int32))] := A329
      refine W.dup (pc' := 580) X d_m4_579 rfl rfl ?_
      refine W.bipush (pc' := 582) X (31 : Int32) d_m4_580 (by decide) rfl ?_
      refine W.bipush (pc' := 584) X (48 : Int32) d_m4_582 (by decide) rfl ?_
      refine W.castore (pc' := 585) (i := 31) X A329 (by decide) rfl (ltb rfl) (show nar .char (48 : Int32) = (48 : Int32) from by decide) g234 nb235 d_m4_584 rfl fun T h330 X K331 A332 => ?_
      have A332 : Ar Z h330 a231 .char [(.int (48 : Int32)), (.int (48 : Int32)), (.int (48 : Int32)), (.int (48 : Int32)), (.int (48 : Int32)), (.int (48 : Int32)), (.int (48 : Int32)), (.int (48 : Int32)), (.int (48 : Int32)), (.int (48 : Int32)), (.int (48 : Int32)), (.int (48 : Int32)), (.int (48 : Int32)), (.int (48 : Int32)), (.int (48 : Int32)), (.int (48 : Int32)), (.int (48 : Int32)), (.int (48 : Int32)), (.int (48 : Int32)), (.int (48 : Int32)), (.int (48 : Int32)), (.int (48 : Int32)), (.int (48 : Int32)), (.int (48 : Int32)), (.int (48 : Int32)), (.int (48 : Int32)), (.int (48 : Int32)), (.int (48 : Int32)), (.int (48 : Int32)), (.int (48 : Int32)), (.int (48 : Int32)), (.int (48 : Int32)), (.int (0 : Int32)), (.int (0 : Int32)), (.int (0 : Int32)), (.int (0 : Int32)), (.int (0 : Int32)), (.int (0 : Int32)), (.int (0 : Int32)), (.int (0 : Int32))] := A332
      refine W.dup (pc' := 586) X d_m4_585 rfl rfl ?_
      refine W.bipush (pc' := 588) X (32 : Int32) d_m4_586 (by decide) rfl ?_
      refine W.bipush (pc' := 590) X (48 : Int32) d_m4_588 (by decide) rfl ?_
      refine W.castore (pc' := 591) (i := 32) X A332 (by decide) rfl (ltb rfl) (show nar .char (48 : Int32) = (48 : Int32) from by decide) g234 nb235 d_m4_590 rfl fun T h333 X K334 A335 => ?_
      have A335 : Ar Z h333 a231 .char [(.int (48 : Int32)), (.int (48 : Int32)), (.int (48 : Int32)), (.int (48 : Int32)), (.int (48 : Int32)), (.int (48 : Int32)), (.int (48 : Int32)), (.int (48 : Int32)), (.int (48 : Int32)), (.int (48 : Int32)), (.int (48 : Int32)), (.int (48 : Int32)), (.int (48 : Int32)), (.int (48 : Int32)), (.int (48 : Int32)), (.int (48 : Int32)), (.int (48 : Int32)), (.int (48 : Int32)), (.int (48 : Int32)), (.int (48 : Int32)), (.int (48 : Int32)), (.int (48 : Int32)), (.int (48 : Int32)), (.int (48 : Int32)), (.int (48 : Int32)), (.int (48 : Int32)), (.int (48 : Int32)), (.int (48 : Int32)), (.int (48 : Int32)), (.int (48 : Int32)), (.int (48 : Int32)), (.int (48 : Int32)), (.int (48 : Int32)), (.int (0 : Int32)), (.int (0 : Int32)), (.int (0 : Int32)), (.int (0 : Int32)), (.int (0 : Int32)), (.int (0 : Int32)), (.int (0 : Int32))] := A335
      refine W.dup (pc' := 592) X d_m4_591 rfl rfl ?_
      refine W.bipush (pc' := 594) X (33 : Int32) d_m4_592 (by decide) rfl ?_
      refine W.bipush (pc' := 596) X (48 : Int32) d_m4_594 (by decide) rfl ?_
      refine W.castore (pc' := 597) (i := 33) X A335 (by decide) rfl (ltb rfl) (show nar .char (48 : Int32) = (48 : Int32) from by decide) g234 nb235 d_m4_596 rfl fun T h336 X K337 A338 => ?_
      have A338 : Ar Z h336 a231 .char [(.int (48 : Int32)), (.int (48 : Int32)), (.int (48 : Int32)), (.int (48 : Int32)), (.int (48 : Int32)), (.int (48 : Int32)), (.int (48 : Int32)), (.int (48 : Int32)), (.int (48 : Int32)), (.int (48 : Int32)), (.int (48 : Int32)), (.int (48 : Int32)), (.int (48 : Int32)), (.int (48 : Int32)), (.int (48 : Int32)), (.int (48 : Int32)), (.int (48 : Int32)), (.int (48 : Int32)), (.int (48 : Int32)), (.int (48 : Int32)), (.int (48 : Int32)), (.int (48 : Int32)), (.int (48 : Int32)), (.int (48 : Int32)), (.int (48 : Int32)), (.int (48 : Int32)), (.int (48 : Int32)), (.int (48 : Int32)), (.int (48 : Int32)), (.int (48 : Int32)), (.int (48 : Int32)), (.int (48 : Int32)), (.int (48 : Int32)), (.int (48 : Int32)), (.int (0 : Int32)), (.int (0 : Int32)), (.int (0 : Int32)), (.int (0 : Int32)), (.int (0 : Int32)), (.int (0 : Int32))] := A338
      refine W.dup (pc' := 598) X d_m4_597 rfl rfl ?_
      refine W.bipush (pc' := 600) X (34 : Int32) d_m4_598 (by decide) rfl ?_
      refine W.bipush (pc' := 602) X (48 : Int32) d_m4_600 (by decide) rfl ?_
      refine W.castore (pc' := 603) (i := 34) X A338 (by decide) rfl (ltb rfl) (show nar .char (48 : Int32) = (48 : Int32) from by decide) g234 nb235 d_m4_602 rfl fun T h339 X K340 A341 => ?_
      have A341 : Ar Z h339 a231 .char [(.int (48 : Int32)), (.int (48 : Int32)), (.int (48 : Int32)), (.int (48 : Int32)), (.int (48 : Int32)), (.int (48 : Int32)), (.int (48 : Int32)), (.int (48 : Int32)), (.int (48 : Int32)), (.int (48 : Int32)), (.int (48 : Int32)), (.int (48 : Int32)), (.int (48 : Int32)), (.int (48 : Int32)), (.int (48 : Int32)), (.int (48 : Int32)), (.int (48 : Int32)), (.int (48 : Int32)), (.int (48 : Int32)), (.int (48 : Int32)), (.int (48 : Int32)), (.int (48 : Int32)), (.int (48 : Int32)), (.int (48 : Int32)), (.int (48 : Int32)), (.int (48 : Int32)), (.int (48 : Int32)), (.int (48 : Int32)), (.int (48 : Int32)), (.int (48 : Int32)), (.int (48 : Int32)), (.int (48 : Int32)), (.int (48 : Int32)), (.int (48 : Int32)), (.int (48 : Int32)), (.int (0 : Int32)), (.int (0 : Int32)), (.int (0 : Int32)), (.int (0 : Int32)), (.int (0 : Int32))] := A341
      refine W.dup (pc' := 604) X d_m4_603 rfl rfl ?_
      refine W.bipush (pc' := 606) X (35 : Int32) d_m4_604 (by decide) rfl ?_
      refine W.bipush (pc' := 608) X (48 : Int32) d_m4_606 (by decide) rfl ?_
      refine W.castore (pc' := 609) (i := 35) X A341 (by decide) rfl (ltb rfl) (show nar .char (48 : Int32) = (48 : Int32) from by decide) g234 nb235 d_m4_608 rfl fun T h342 X K343 A344 => ?_
      have A344 : Ar Z h342 a231 .char [(.int (48 : Int32)), (.int (48 : Int32)), (.int (48 : Int32)), (.int (48 : Int32)), (.int (48 : Int32)), (.int (48 : Int32)), (.int (48 : Int32)), (.int (48 : Int32)), (.int (48 : Int32)), (.int (48 : Int32)), (.int (48 : Int32)), (.int (48 : Int32)), (.int (48 : Int32)), (.int (48 : Int32)), (.int (48 : Int32)), (.int (48 : Int32)), (.int (48 : Int32)), (.int (48 : Int32)), (.int (48 : Int32)), (.int (48 : Int32)), (.int (48 : Int32)), (.int (48 : Int32)), (.int (48 : Int32)), (.int (48 : Int32)), (.int (48 : Int32)), (.int (48 : Int32)), (.int (48 : Int32)), (.int (48 : Int32)), (.int (48 : Int32)), (.int (48 : Int32)), (.int (48 : Int32)), (.int (48 : Int32)), (.int (48 : Int32)), (.int (48 : Int32)), (.int (48 : Int32)), (.int (48 : Int32)), (.int (0 : Int32)), (.int (0 : Int32)), (.int (0 : Int32)), (.int (0 : Int32))] := A344
      refine W.dup (pc' := 610) X d_m4_609 rfl rfl ?_
      refine W.bipush (pc' := 612) X (36 : Int32) d_m4_610 (by decide) rfl ?_
      refine W.bipush (pc' := 614) X (48 : Int32) d_m4_612 (by decide) rfl ?_
      refine W.castore (pc' := 615) (i := 36) X A344 (by decide) rfl (ltb rfl) (show nar .char (48 : Int32) = (48 : Int32) from by decide) g234 nb235 d_m4_614 rfl fun T h345 X K346 A347 => ?_
      have A347 : Ar Z h345 a231 .char [(.int (48 : Int32)), (.int (48 : Int32)), (.int (48 : Int32)), (.int (48 : Int32)), (.int (48 : Int32)), (.int (48 : Int32)), (.int (48 : Int32)), (.int (48 : Int32)), (.int (48 : Int32)), (.int (48 : Int32)), (.int (48 : Int32)), (.int (48 : Int32)), (.int (48 : Int32)), (.int (48 : Int32)), (.int (48 : Int32)), (.int (48 : Int32)), (.int (48 : Int32)), (.int (48 : Int32)), (.int (48 : Int32)), (.int (48 : Int32)), (.int (48 : Int32)), (.int (48 : Int32)), (.int (48 : Int32)), (.int (48 : Int32)), (.int (48 : Int32)), (.int (48 : Int32)), (.int (48 : Int32)), (.int (48 : Int32)), (.int (48 : Int32)), (.int (48 : Int32)), (.int (48 : Int32)), (.int (48 : Int32)), (.int (48 : Int32)), (.int (48 : Int32)), (.int (48 : Int32)), (.int (48 : Int32)), (.int (48 : Int32)), (.int (0 : Int32)), (.int (0 : Int32)), (.int (0 : Int32))] := A347
      refine W.dup (pc' := 616) X d_m4_615 rfl rfl ?_
      refine W.bipush (pc' := 618) X (37 : Int32) d_m4_616 (by decide) rfl ?_
      refine W.bipush (pc' := 620) X (48 : Int32) d_m4_618 (by decide) rfl ?_
      refine W.castore (pc' := 621) (i := 37) X A347 (by decide) rfl (ltb rfl) (show nar .char (48 : Int32) = (48 : Int32) from by decide) g234 nb235 d_m4_620 rfl fun T h348 X K349 A350 => ?_
      have A350 : Ar Z h348 a231 .char [(.int (48 : Int32)), (.int (48 : Int32)), (.int (48 : Int32)), (.int (48 : Int32)), (.int (48 : Int32)), (.int (48 : Int32)), (.int (48 : Int32)), (.int (48 : Int32)), (.int (48 : Int32)), (.int (48 : Int32)), (.int (48 : Int32)), (.int (48 : Int32)), (.int (48 : Int32)), (.int (48 : Int32)), (.int (48 : Int32)), (.int (48 : Int32)), (.int (48 : Int32)), (.int (48 : Int32)), (.int (48 : Int32)), (.int (48 : Int32)), (.int (48 : Int32)), (.int (48 : Int32)), (.int (48 : Int32)), (.int (48 : Int32)), (.int (48 : Int32)), (.int (48 : Int32)), (.int (48 : Int32)), (.int (48 : Int32)), (.int (48 : Int32)), (.int (48 : Int32)), (.int (48 : Int32)), (.int (48 : Int32)), (.int (48 : Int32)), (.int (48 : Int32)), (.int (48 : Int32)), (.int (48 : Int32)), (.int (48 : Int32)), (.int (48 : Int32)), (.int (0 : Int32)), (.int (0 : Int32))] := A350
      refine W.dup (pc' := 622) X d_m4_621 rfl rfl ?_
      refine W.bipush (pc' := 624) X (38 : Int32) d_m4_622 (by decide) rfl ?_
      refine W.bipush (pc' := 626) X (48 : Int32) d_m4_624 (by decide) rfl ?_
      refine W.castore (pc' := 627) (i := 38) X A350 (by decide) rfl (ltb rfl) (show nar .char (48 : Int32) = (48 : Int32) from by decide) g234 nb235 d_m4_626 rfl fun T h351 X K352 A353 => ?_
      have A353 : Ar Z h351 a231 .char [(.int (48 : Int32)), (.int (48 : Int32)), (.int (48 : Int32)), (.int (48 : Int32)), (.int (48 : Int32)), (.int (48 : Int32)), (.int (48 : Int32)), (.int (48 : Int32)), (.int (48 : Int32)), (.int (48 : Int32)), (.int (48 : Int32)), (.int (48 : Int32)), (.int (48 : Int32)), (.int (48 : Int32)), (.int (48 : Int32)), (.int (48 : Int32)), (.int (48 : Int32)), (.int (48 : Int32)), (.int (48 : Int32)), (.int (48 : Int32)), (.int (48 : Int32)), (.int (48 : Int32)), (.int (48 : Int32)), (.int (48 : Int32)), (.int (48 : Int32)), (.int (48 : Int32)), (.int (48 : Int32)), (.int (48 : Int32)), (.int (48 : Int32)), (.int (48 : Int32)), (.int (48 : Int32)), (.int (48 : Int32)), (.int (48 : Int32)), (.int (48 : Int32)), (.int (48 : Int32)), (.int (48 : Int32)), (.int (48 : Int32)), (.int (48 : Int32)), (.int (48 : Int32)), (.int (0 : Int32))] := A353
      refine W.dup (pc' := 628) X d_m4_627 rfl rfl ?_
      refine W.bipush (pc' := 630) X (39 : Int32) d_m4_628 (by decide) rfl ?_
      refine W.bipush (pc' := 632) X (48 : Int32) d_m4_630 (by decide) rfl ?_
      refine W.castore (pc' := 633) (i := 39) X A353 (by decide) rfl (ltb rfl) (show nar .char (48 : Int32) = (48 : Int32) from by decide) g234 nb235 d_m4_632 rfl fun T h354 X K355 A356 => ?_
      have A356 : Ar Z h354 a231 .char [(.int (48 : Int32)), (.int (48 : Int32)), (.int (48 : Int32)), (.int (48 : Int32)), (.int (48 : Int32)), (.int (48 : Int32)), (.int (48 : Int32)), (.int (48 : Int32)), (.int (48 : Int32)), (.int (48 : Int32)), (.int (48 : Int32)), (.int (48 : Int32)), (.int (48 : Int32)), (.int (48 : Int32)), (.int (48 : Int32)), (.int (48 : Int32)), (.int (48 : Int32)), (.int (48 : Int32)), (.int (48 : Int32)), (.int (48 : Int32)), (.int (48 : Int32)), (.int (48 : Int32)), (.int (48 : Int32)), (.int (48 : Int32)), (.int (48 : Int32)), (.int (48 : Int32)), (.int (48 : Int32)), (.int (48 : Int32)), (.int (48 : Int32)), (.int (48 : Int32)), (.int (48 : Int32)), (.int (48 : Int32)), (.int (48 : Int32)), (.int (48 : Int32)), (.int (48 : Int32)), (.int (48 : Int32)), (.int (48 : Int32)), (.int (48 : Int32)), (.int (48 : Int32)), (.int (48 : Int32))] := A356
      refine W.astoreN (pc' := 634) (ls' := #[.val (.int i), .val (.int b), .val (.ref a231), .unset]) X d_m4_633 rfl rfl rfl ?_
      refine W.goto (pc' := 828) X d_m4_634 (by decide) (by decide) ?_
      refine W.aloadN (pc' := 829) X d_m4_828 rfl rfl rfl ?_
      refine W.alen (pc' := 830) (z := (40 : Int32)) X A356 rfl d_m4_829 rfl ?_
      refine W.istoreN (pc' := 831) (ls' := #[.val (.int i), .val (.int b), .val (.ref a231), .val (.int (40 : Int32))]) X d_m4_830 rfl rfl ?_
      refine W.aloadN (pc' := 832) X d_m4_831 rfl rfl rfl ?_
      refine W.iconst (pc' := 833) X (0 : Int32) d_m4_832 (by decide) rfl ?_
      refine W.iloadN (pc' := 834) X d_m4_833 rfl rfl ?_
      refine W.callS (pc' := 837) (W := 2) (argsL := [(.int b)]) (st := [(.int (0 : Int32)), (.ref a231)]) (k' := 1) (n' := 40) X (c_hex (n := b) G X.en) (w15 G) (w16 G) (w17 G) (w6 G) (by decide) (by decide) (by decide) rfl (lenOf pd16 rfl) rfl rfl (Nat.le_of_eq rfl) d_m4_834 rfl (by decide) (by decide) (by decide) (by decide) (kp fun T X => ?_)
      refine W.castore (pc' := 838) (i := 0) X A356 (by decide) rfl (ltb rfl) (hex_nar (hexd_hex _)) g234 nb235 d_m4_837 rfl fun T h357 X K358 A359 => ?_
      have A359 : Ar Z h357 a231 .char [(.int (hexd b)), (.int (48 : Int32)), (.int (48 : Int32)), (.int (48 : Int32)), (.int (48 : Int32)), (.int (48 : Int32)), (.int (48 : Int32)), (.int (48 : Int32)), (.int (48 : Int32)), (.int (48 : Int32)), (.int (48 : Int32)), (.int (48 : Int32)), (.int (48 : Int32)), (.int (48 : Int32)), (.int (48 : Int32)), (.int (48 : Int32)), (.int (48 : Int32)), (.int (48 : Int32)), (.int (48 : Int32)), (.int (48 : Int32)), (.int (48 : Int32)), (.int (48 : Int32)), (.int (48 : Int32)), (.int (48 : Int32)), (.int (48 : Int32)), (.int (48 : Int32)), (.int (48 : Int32)), (.int (48 : Int32)), (.int (48 : Int32)), (.int (48 : Int32)), (.int (48 : Int32)), (.int (48 : Int32)), (.int (48 : Int32)), (.int (48 : Int32)), (.int (48 : Int32)), (.int (48 : Int32)), (.int (48 : Int32)), (.int (48 : Int32)), (.int (48 : Int32)), (.int (48 : Int32))] := A359
      refine W.aloadN (pc' := 839) X d_m4_838 rfl rfl rfl ?_
      refine W.iloadN (pc' := 840) X d_m4_839 rfl rfl ?_
      refine W.iconst (pc' := 841) X (2 : Int32) d_m4_840 (by decide) rfl ?_
      refine W.idiv (pc' := 842) (w := (20 : Int32)) X d_m4_841 (by decide) (by decide) rfl ?_
      refine W.iloadN (pc' := 843) X d_m4_842 rfl rfl ?_
      refine W.iconst (pc' := 844) X (4 : Int32) d_m4_843 (by decide) rfl ?_
      refine W.iushr (pc' := 845) (w := (XT.ushr b (4 : Int32))) X d_m4_844 rfl rfl ?_
      refine W.callS (pc' := 848) (W := 2) (argsL := [(.int (XT.ushr b (4 : Int32)))]) (st := [(.int (20 : Int32)), (.ref a231)]) (k' := 1) (n' := 40) X (c_hex (n := (XT.ushr b (4 : Int32))) G X.en) (w15 G) (w16 G) (w17 G) (w6 G) (by decide) (by decide) (by decide) rfl (lenOf pd16 rfl) rfl rfl (Nat.le_of_eq rfl) d_m4_845 rfl (by decide) (by decide) (by decide) (by decide) (kp fun T X => ?_)
      refine W.castore (pc' := 849) (i := 20) X A359 (by decide) rfl (ltb rfl) (hex_nar (hexd_hex _)) g234 nb235 d_m4_848 rfl fun T h360 X K361 A362 => ?_
      have A362 : Ar Z h360 a231 .char [(.int (hexd b)), (.int (48 : Int32)), (.int (48 : Int32)), (.int (48 : Int32)), (.int (48 : Int32)), (.int (48 : Int32)), (.int (48 : Int32)), (.int (48 : Int32)), (.int (48 : Int32)), (.int (48 : Int32)), (.int (48 : Int32)), (.int (48 : Int32)), (.int (48 : Int32)), (.int (48 : Int32)), (.int (48 : Int32)), (.int (48 : Int32)), (.int (48 : Int32)), (.int (48 : Int32)), (.int (48 : Int32)), (.int (48 : Int32)), (.int (hexd (XT.ushr b (4 : Int32)))), (.int (48 : Int32)), (.int (48 : Int32)), (.int (48 : Int32)), (.int (48 : Int32)), (.int (48 : Int32)), (.int (48 : Int32)), (.int (48 : Int32)), (.int (48 : Int32)), (.int (48 : Int32)), (.int (48 : Int32)), (.int (48 : Int32)), (.int (48 : Int32)), (.int (48 : Int32)), (.int (48 : Int32)), (.int (48 : Int32)), (.int (48 : Int32)), (.int (48 : Int32)), (.int (48 : Int32)), (.int (48 : Int32))] := A362
      refine W.aloadN (pc' := 850) X d_m4_849 rfl rfl rfl ?_
      refine W.iloadN (pc' := 851) X d_m4_850 rfl rfl ?_
      refine W.iconst (pc' := 852) X (1 : Int32) d_m4_851 (by decide) rfl ?_
      refine W.isub (pc' := 853) (w := (39 : Int32)) X d_m4_852 (by decide) rfl ?_
      refine W.iloadN (pc' := 854) X d_m4_853 rfl rfl ?_
      refine W.bipush (pc' := 856) X (8 : Int32) d_m4_854 (by decide) rfl ?_
      refine W.iushr (pc' := 857) (w := (XT.ushr b (8 : Int32))) X d_m4_856 rfl rfl ?_
      refine W.callS (pc' := 860) (W := 2) (argsL := [(.int (XT.ushr b (8 : Int32)))]) (st := [(.int (39 : Int32)), (.ref a231)]) (k' := 1) (n' := 40) X (c_hex (n := (XT.ushr b (8 : Int32))) G X.en) (w15 G) (w16 G) (w17 G) (w6 G) (by decide) (by decide) (by decide) rfl (lenOf pd16 rfl) rfl rfl (Nat.le_of_eq rfl) d_m4_857 rfl (by decide) (by decide) (by decide) (by decide) (kp fun T X => ?_)
      refine W.castore (pc' := 861) (i := 39) X A362 (by decide) rfl (ltb rfl) (hex_nar (hexd_hex _)) g234 nb235 d_m4_860 rfl fun T h363 X K364 A365 => ?_
      have A365 : Ar Z h363 a231 .char [(.int (hexd b)), (.int (48 : Int32)), (.int (48 : Int32)), (.int (48 : Int32)), (.int (48 : Int32)), (.int (48 : Int32)), (.int (48 : Int32)), (.int (48 : Int32)), (.int (48 : Int32)), (.int (48 : Int32)), (.int (48 : Int32)), (.int (48 : Int32)), (.int (48 : Int32)), (.int (48 : Int32)), (.int (48 : Int32)), (.int (48 : Int32)), (.int (48 : Int32)), (.int (48 : Int32)), (.int (48 : Int32)), (.int (48 : Int32)), (.int (hexd (XT.ushr b (4 : Int32)))), (.int (48 : Int32)), (.int (48 : Int32)), (.int (48 : Int32)), (.int (48 : Int32)), (.int (48 : Int32)), (.int (48 : Int32)), (.int (48 : Int32)), (.int (48 : Int32)), (.int (48 : Int32)), (.int (48 : Int32)), (.int (48 : Int32)), (.int (48 : Int32)), (.int (48 : Int32)), (.int (48 : Int32)), (.int (48 : Int32)), (.int (48 : Int32)), (.int (48 : Int32)), (.int (48 : Int32)), (.int (hexd (XT.ushr b (8 : Int32))))] := A365
      refine W.new (pc' := 864) (k' := 2) (n' := 44) X (w18 G) (w19 G) (w20 G) d_m4_861 rfl (by decide) (by decide) (by decide) (by decide) fun T h366 a367 X K368 g369 g370 nb371 E372 D373 => ?_
      have F374 : Fld Z h366 a367 "java/lang/String" "coder" "B" (.int (0 : Int32)) := D373 (Or.inr (w44 G)) (ty := .byte) (by decide)
      have F375 : Fld Z h366 a367 "java/lang/String" "value" "[B" .null := D373 (Or.inr (w46 G)) (ty := (.array .byte)) (by decide)
      refine W.dup (pc' := 865) X d_m4_864 rfl rfl ?_
      refine W.aloadN (pc' := 866) X d_m4_865 rfl rfl rfl ?_
      have F376 := (A365.keep K368 nin0)
      have en377 := X.en
      refine W.callN (pc' := 869) (W := 1) (argsL := [(.ref a231)]) (st := [(.ref a367)]) (k' := 3) (n' := 108) (a := a367) X (c_init1 (x := a367) (a := a231) (cs := [(hexd b), (48 : Int32), (48 : Int32), (48 : Int32), (48 : Int32), (48 : Int32), (48 : Int32), (48 : Int32), (48 : Int32), (48 : Int32), (48 : Int32), (48 : Int32), (48 : Int32), (48 : Int32), (48 : Int32), (48 : Int32), (48 : Int32), (48 : Int32), (48 : Int32), (48 : Int32), (hexd (XT.ushr b (4 : Int32))), (48 : Int32), (48 : Int32), (48 : Int32), (48 : Int32), (48 : Int32), (48 : Int32), (48 : Int32), (48 : Int32), (48 : Int32), (48 : Int32), (48 : Int32), (48 : Int32), (48 : Int32), (48 : Int32), (48 : Int32), (48 : Int32), (48 : Int32), (48 : Int32), (hexd (XT.ushr b (8 : Int32)))]) (v0 := .null) (c0 := (.int (0 : Int32))) G X.en E372 F375 F374 F376 (latS (hex_rng (hexd_hex _)) (latS l48 (latS l48 (latS l48 (latS l48 (latS l48 (latS l48 (latS l48 (latS l48 (latS l48 (latS l48 (latS l48 (latS l48 (latS l48 (latS l48 (latS l48 (latS l48 (latS l48 (latS l48 (latS l48 (latS (hex_rng (hexd_hex _)) (latS l48 (latS l48 (latS l48 (latS l48 (latS l48 (latS l48 (latS l48 (latS l48 (latS l48 (latS l48 (latS l48 (latS l48 (latS l48 (latS l48 (latS l48 (latS l48 (latS l48 (latS l48 (latS (hex_rng (hexd_hex _)) lat0)))))))))))))))))))))))))))))))))))))))) (ltb rfl) (leb rfl) g370 nb371) rfl (w21 G) (w22 G) (w23 G) (w20 G) (by decide) (by decide) (by decide) rfl (lenOf pd26 rfl) rfl rfl (Nat.le_of_eq rfl) d_m4_866 rfl (by decide) (by decide) (by decide) (by decide) (kv fun T h378 X z379 q380 => ?_)
      obtain ⟨a381, K382, g383, F384⟩ := q380
      have g385 : Z.heap.size ≤ a381 := Nat.le_trans (Nat.le_trans hz0 (Nat.le_trans (Nat.le_trans (Nat.le_trans (Nat.le_trans (Nat.le_trans (Nat.le_trans (Nat.le_trans (Nat.le_trans (Nat.le_trans (Nat.le_trans (Nat.le_trans (Nat.le_trans (Nat.le_trans (Nat.le_trans (Nat.le_trans (Nat.le_trans (Nat.le_trans (Nat.le_trans (Nat.le_trans (Nat.le_trans (Nat.le_trans (Nat.le_trans (Nat.le_trans (Nat.le_trans (Nat.le_trans (Nat.le_trans (Nat.le_trans (Nat.le_trans (Nat.le_trans (Nat.le_trans (Nat.le_trans (Nat.le_trans (Nat.le_trans (Nat.le_trans (Nat.le_trans (Nat.le_trans (Nat.le_trans (Nat.le_trans (Nat.le_trans (Nat.le_trans (Nat.le_trans (Nat.le_trans (Nat.le_trans (Nat.le_trans K232.1 K238.1) K241.1) K244.1) K247.1) K250.1) K253.1) K256.1) K259.1) K262.1) K265.1) K268.1) K271.1) K274.1) K277.1) K280.1) K283.1) K286.1) K289.1) K292.1) K295.1) K298.1) K301.1) K304.1) K307.1) K310.1) K313.1) K316.1) K319.1) K322.1) K325.1) K328.1) K331.1) K334.1) K337.1) K340.1) K343.1) K346.1) K349.1) K352.1) K355.1) K358.1) K361.1) K364.1) K368.1)) g383
      have nb386 : ¬ B a381 := fun q => absurd (en377.2 _ q) (Nat.not_lt.mpr g383)
      exact W.areturn X d_m4_869 rfl rfl rfl rfl (by decide) (by decide) ⟨_, rfl, rfl, ⟨a367, a381, rfl, (Keep.trans (Keep.trans (Keep.trans (Keep.trans (Keep.trans (Keep.trans (Keep.trans (Keep.trans (Keep.trans (Keep.trans (Keep.trans (Keep.trans (Keep.trans (Keep.trans (Keep.trans (Keep.trans (Keep.trans (Keep.trans (Keep.trans (Keep.trans (Keep.trans (Keep.trans (Keep.trans (Keep.trans (Keep.trans (Keep.trans (Keep.trans (Keep.trans (Keep.trans (Keep.trans (Keep.trans (Keep.trans (Keep.trans (Keep.trans (Keep.trans (Keep.trans (Keep.trans (Keep.trans (Keep.trans (Keep.trans (Keep.trans (Keep.trans (Keep.trans (Keep.trans (Keep.trans (Keep.trans (Keep.refl h []) K232 all0) K238 (allS (Or.inr (Nat.le_trans (Nat.le_refl _) g233)) all0)) K241 (allS (Or.inr (Nat.le_trans (Nat.le_refl _) g233)) all0)) K244 (allS (Or.inr (Nat.le_trans (Nat.le_refl _) g233)) all0)) K247 (allS (Or.inr (Nat.le_trans (Nat.le_refl _) g233)) all0)) K250 (allS (Or.inr (Nat.le_trans (Nat.le_refl _) g233)) all0)) K253 (allS (Or.inr (Nat.le_trans (Nat.le_refl _) g233)) all0)) K256 (allS (Or.inr (Nat.le_trans (Nat.le_refl _) g233)) all0)) K259 (allS (Or.inr (Nat.le_trans (Nat.le_refl _) g233)) all0)) K262 (allS (Or.inr (Nat.le_trans (Nat.le_refl _) g233)) all0)) K265 (allS (Or.inr (Nat.le_trans (Nat.le_refl _) g233)) all0)) K268 (allS (Or.inr (Nat.le_trans (Nat.le_refl _) g233)) all0)) K271 (allS (Or.inr (Nat.le_trans (Nat.le_refl _) g233)) all0)) K274 (allS (Or.inr (Nat.le_trans (Nat.le_refl _) g233)) all0)) K277 (allS (Or.inr (Nat.le_trans (Nat.le_refl _) g233)) all0)) K280 (allS (Or.inr (Nat.le_trans (Nat.le_refl _) g233)) all0)) K283 (allS (Or.inr (Nat.le_trans (Nat.le_refl _) g233)) all0)) K286 (allS (Or.inr (Nat.le_trans (Nat.le_refl _) g233)) all0)) K289 (allS (Or.inr (Nat.le_trans (Nat.le_refl _) g233)) all0)) K292 (allS (Or.inr (Nat.le_trans (Nat.le_refl _) g233)) all0)) K295 (allS (Or.inr (Nat.le_trans (Nat.le_refl _) g233)) all0)) K298 (allS (Or.inr (Nat.le_trans (Nat.le_refl _) g233)) all0)) K301 (allS (Or.inr (Nat.le_trans (Nat.le_refl _) g233)) all0)) K304 (allS (Or.inr (Nat.le_trans (Nat.le_refl _) g233)) all0)) K307 (allS (Or.inr (Nat.le_trans (Nat.le_refl _) g233)) all0)) K310 (allS (Or.inr (Nat.le_trans (Nat.le_refl _) g233)) all0)) K313 (allS (Or.inr (Nat.le_trans (Nat.le_refl _) g233)) all0)) K316 (allS (Or.inr (Nat.le_trans (Nat.le_refl _) g233)) all0)) K319 (allS (Or.inr (Nat.le_trans (Nat.le_refl _) g233)) all0)) K322 (allS (Or.inr (Nat.le_trans (Nat.le_refl _) g233)) all0)) K325 (allS (Or.inr (Nat.le_trans (Nat.le_refl _) g233)) all0)) K328 (allS (Or.inr (Nat.le_trans (Nat.le_refl _) g233)) all0)) K331 (allS (Or.inr (Nat.le_trans (Nat.le_refl _) g233)) all0)) K334 (allS (Or.inr (Nat.le_trans (Nat.le_refl _) g233)) all0)) K337 (allS (Or.inr (Nat.le_trans (Nat.le_refl _) g233)) all0)) K340 (allS (Or.inr (Nat.le_trans (Nat.le_refl _) g233)) all0)) K343 (allS (Or.inr (Nat.le_trans (Nat.le_refl _) g233)) all0)) K346 (allS (Or.inr (Nat.le_trans (Nat.le_refl _) g233)) all0)) K349 (allS (Or.inr (Nat.le_trans (Nat.le_refl _) g233)) all0)) K352 (allS (Or.inr (Nat.le_trans (Nat.le_refl _) g233)) all0)) K355 (allS (Or.inr (Nat.le_trans (Nat.le_refl _) g233)) all0)) K358 (allS (Or.inr (Nat.le_trans (Nat.le_refl _) g233)) all0)) K361 (allS (Or.inr (Nat.le_trans (Nat.le_refl _) g233)) all0)) K364 (allS (Or.inr (Nat.le_trans (Nat.le_refl _) g233)) all0)) K368 all0) K382 (allS (Or.inr (Nat.le_trans (Nat.le_trans (Nat.le_trans (Nat.le_trans (Nat.le_trans (Nat.le_trans (Nat.le_trans (Nat.le_trans (Nat.le_trans (Nat.le_trans (Nat.le_trans (Nat.le_trans (Nat.le_trans (Nat.le_trans (Nat.le_trans (Nat.le_trans (Nat.le_trans (Nat.le_trans (Nat.le_trans (Nat.le_trans (Nat.le_trans (Nat.le_trans (Nat.le_trans (Nat.le_trans (Nat.le_trans (Nat.le_trans (Nat.le_trans (Nat.le_trans (Nat.le_trans (Nat.le_trans (Nat.le_trans (Nat.le_trans (Nat.le_trans (Nat.le_trans (Nat.le_trans (Nat.le_trans (Nat.le_trans (Nat.le_trans (Nat.le_trans (Nat.le_trans (Nat.le_trans (Nat.le_trans (Nat.le_trans (Nat.le_trans K232.1 K238.1) K241.1) K244.1) K247.1) K250.1) K253.1) K256.1) K259.1) K262.1) K265.1) K268.1) K271.1) K274.1) K277.1) K280.1) K283.1) K286.1) K289.1) K292.1) K295.1) K298.1) K301.1) K304.1) K307.1) K310.1) K313.1) K316.1) K319.1) K322.1) K325.1) K328.1) K331.1) K334.1) K337.1) K340.1) K343.1) K346.1) K349.1) K352.1) K355.1) K358.1) K361.1) K364.1) g369)) all0)), (Nat.le_trans (Nat.le_trans (Nat.le_trans (Nat.le_trans (Nat.le_trans (Nat.le_trans (Nat.le_trans (Nat.le_trans (Nat.le_trans (Nat.le_trans (Nat.le_trans (Nat.le_trans (Nat.le_trans (Nat.le_trans (Nat.le_trans (Nat.le_trans (Nat.le_trans (Nat.le_trans (Nat.le_trans (Nat.le_trans (Nat.le_trans (Nat.le_trans (Nat.le_trans (Nat.le_trans (Nat.le_trans (Nat.le_trans (Nat.le_trans (Nat.le_trans (Nat.le_trans (Nat.le_trans (Nat.le_trans (Nat.le_trans (Nat.le_trans (Nat.le_trans (Nat.le_trans (Nat.le_trans (Nat.le_trans (Nat.le_trans (Nat.le_trans (Nat.le_trans (Nat.le_trans (Nat.le_trans (Nat.le_trans (Nat.le_trans K232.1 K238.1) K241.1) K244.1) K247.1) K250.1) K253.1) K256.1) K259.1) K262.1) K265.1) K268.1) K271.1) K274.1) K277.1) K280.1) K283.1) K286.1) K289.1) K292.1) K295.1) K298.1) K301.1) K304.1) K307.1) K310.1) K313.1) K316.1) K319.1) K322.1) K325.1) K328.1) K331.1) K334.1) K337.1) K340.1) K343.1) K346.1) K349.1) K352.1) K355.1) K358.1) K361.1) K364.1) g369), (Nat.le_trans (Nat.le_trans (Nat.le_trans (Nat.le_trans (Nat.le_trans (Nat.le_trans (Nat.le_trans (Nat.le_trans (Nat.le_trans (Nat.le_trans (Nat.le_trans (Nat.le_trans (Nat.le_trans (Nat.le_trans (Nat.le_trans (Nat.le_trans (Nat.le_trans (Nat.le_trans (Nat.le_trans (Nat.le_trans (Nat.le_trans (Nat.le_trans (Nat.le_trans (Nat.le_trans (Nat.le_trans (Nat.le_trans (Nat.le_trans (Nat.le_trans (Nat.le_trans (Nat.le_trans (Nat.le_trans (Nat.le_trans (Nat.le_trans (Nat.le_trans (Nat.le_trans (Nat.le_trans (Nat.le_trans (Nat.le_trans (Nat.le_trans (Nat.le_trans (Nat.le_trans (Nat.le_trans (Nat.le_trans (Nat.le_trans (Nat.le_trans K232.1 K238.1) K241.1) K244.1) K247.1) K250.1) K253.1) K256.1) K259.1) K262.1) K265.1) K268.1) K271.1) K274.1) K277.1) K280.1) K283.1) K286.1) K289.1) K292.1) K295.1) K298.1) K301.1) K304.1) K307.1) K310.1) K313.1) K316.1) K319.1) K322.1) K325.1) K328.1) K331.1) K334.1) K337.1) K340.1) K343.1) K346.1) K349.1) K352.1) K355.1) K358.1) K361.1) K364.1) K368.1) g383), (strc F384 (by rw [sg, if_neg hi0, if_pos hi1]; rfl))⟩⟩
    · skip
      refine W.icT (pc' := 637) X d_m4_392 (XT.ii_ne_t hi1) (by decide) (by decide) ?_
      refine W.bipush (pc' := 639) X (32 : Int32) d_m4_637 (by decide) rfl ?_
      refine W.newA (aty := .char) (pc' := 641) (k' := 1) (n' := 32) (cap := 32) X (w14 G) d_m4_639 (by decide) (by decide) (by decide) rfl (by decide) (by decide) (by decide) (by decide) fun T h387 a388 X K389 g390 g391 nb392 A393 => ?_
      have A393 : Ar Z h387 a388 .char [(.int (0 : Int32)), (.int (0 : Int32)), (.int (0 : Int32)), (.int (0 : Int32)), (.int (0 : Int32)), (.int (0 : Int32)), (.int (0 : Int32)), (.int (0 : Int32)), (.int (0 : Int32)), (.int (0 : Int32)), (.int (0 : Int32)), (.int (0 : Int32)), (.int (0 : Int32)), (.int (0 : Int32)), (.int (0 : Int32)), (.int (0 : Int32)), (.int (0 : Int32)), (.int (0 : Int32)), (.int (0 : Int32)), (.int (0 : Int32)), (.int (0 : Int32)), (.int (0 : Int32)), (.int (0 : Int32)), (.int (0 : Int32)), (.int (0 : Int32)), (.int (0 : Int32)), (.int (0 : Int32)), (.int (0 : Int32)), (.int (0 : Int32)), (.int (0 : Int32)), (.int (0 : Int32)), (.int (0 : Int32))] := A393
      refine W.dup (pc' := 642) X d_m4_641 rfl rfl ?_
      refine W.iconst (pc' := 643) X (0 : Int32) d_m4_642 (by decide) rfl ?_
      refine W.bipush (pc' := 645) X (48 : Int32) d_m4_643 (by decide) rfl ?_
      refine W.castore (pc' := 646) (i := 0) X A393 (by decide) rfl (ltb rfl) (show nar .char (48 : Int32) = (48 : Int32) from by decide) g391 nb392 d_m4_645 rfl fun T h394 X K395 A396 => ?_
      have A396 : Ar Z h394 a388 .char [(.int (48 : Int32)), (.int (0 : Int32)), (.int (0 : Int32)), (.int (0 : Int32)), (.int (0 : Int32)), (.int (0 : Int32)), (.int (0 : Int32)), (.int (0 : Int32)), (.int (0 : Int32)), (.int (0 : Int32)), (.int (0 : Int32)), (.int (0 : Int32)), (.int (0 : Int32)), (.int (0 : Int32)), (.int (0 : Int32)), (.int (0 : Int32)), (.int (0 : Int32)), (.int (0 : Int32)), (.int (0 : Int32)), (.int (0 : Int32)), (.int (0 : Int32)), (.int (0 : Int32)), (.int (0 : Int32)), (.int (0 : Int32)), (.int (0 : Int32)), (.int (0 : Int32)), (.int (0 : Int32)), (.int (0 : Int32)), (.int (0 : Int32)), (.int (0 : Int32)), (.int (0 : Int32)), (.int (0 : Int32))] := A396
      refine W.dup (pc' := 647) X d_m4_646 rfl rfl ?_
      refine W.iconst (pc' := 648) X (1 : Int32) d_m4_647 (by decide) rfl ?_
      refine W.bipush (pc' := 650) X (48 : Int32) d_m4_648 (by decide) rfl ?_
      refine W.castore (pc' := 651) (i := 1) X A396 (by decide) rfl (ltb rfl) (show nar .char (48 : Int32) = (48 : Int32) from by decide) g391 nb392 d_m4_650 rfl fun T h397 X K398 A399 => ?_
      have A399 : Ar Z h397 a388 .char [(.int (48 : Int32)), (.int (48 : Int32)), (.int (0 : Int32)), (.int (0 : Int32)), (.int (0 : Int32)), (.int (0 : Int32)), (.int (0 : Int32)), (.int (0 : Int32)), (.int (0 : Int32)), (.int (0 : Int32)), (.int (0 : Int32)), (.int (0 : Int32)), (.int (0 : Int32)), (.int (0 : Int32)), (.int (0 : Int32)), (.int (0 : Int32)), (.int (0 : Int32)), (.int (0 : Int32)), (.int (0 : Int32)), (.int (0 : Int32)), (.int (0 : Int32)), (.int (0 : Int32)), (.int (0 : Int32)), (.int (0 : Int32)), (.int (0 : Int32)), (.int (0 : Int32)), (.int (0 : Int32)), (.int (0 : Int32)), (.int (0 : Int32)), (.int (0 : Int32)), (.int (0 : Int32)), (.int (0 : Int32))] := A399
      refine W.dup (pc' := 652) X d_m4_651 rfl rfl ?_
      refine W.iconst (pc' := 653) X (2 : Int32) d_m4_652 (by decide) rfl ?_
      refine W.bipush (pc' := 655) X (48 : Int32) d_m4_653 (by decide) rfl ?_
      refine W.castore (pc' := 656) (i := 2) X A399 (by decide) rfl (ltb rfl) (show nar .char (48 : Int32) = (48 : Int32) from by decide) g391 nb392 d_m4_655 rfl fun T h400 X K401 A402 => ?_
      have A402 : Ar Z h400 a388 .char [(.int (48 : Int32)), (.int (48 : Int32)), (.int (48 : Int32)), (.int (0 : Int32)), (.int (0 : Int32)), (.int (0 : Int32)), (.int (0 : Int32)), (.int (0 : Int32)), (.int (0 : Int32)), (.int (0 : Int32)), (.int (0 : Int32)), (.int (0 : Int32)), (.int (0 : Int32)), (.int (0 : Int32)), (.int (0 : Int32)), (.int (0 : Int32)), (.int (0 : Int32)), (.int (0 : Int32)), (.int (0 : Int32)), (.int (0 : Int32)), (.int (0 : Int32)), (.int (0 : Int32)), (.int (0 : Int32)), (.int (0 : Int32)), (.int (0 : Int32)), (.int (0 : Int32)), (.int (0 : Int32)), (.int (0 : Int32)), (.int (0 : Int32)), (.int (0 : Int32)), (.int (0 : Int32)), (.int (0 : Int32))] := A402
      refine W.dup (pc' := 657) X d_m4_656 rfl rfl ?_
      refine W.iconst (pc' := 658) X (3 : Int32) d_m4_657 (by decide) rfl ?_
      refine W.bipush (pc' := 660) X (48 : Int32) d_m4_658 (by decide) rfl ?_
      refine W.castore (pc' := 661) (i := 3) X A402 (by decide) rfl (ltb rfl) (show nar .char (48 : Int32) = (48 : Int32) from by decide) g391 nb392 d_m4_660 rfl fun T h403 X K404 A405 => ?_
      have A405 : Ar Z h403 a388 .char [(.int (48 : Int32)), (.int (48 : Int32)), (.int (48 : Int32)), (.int (48 : Int32)), (.int (0 : Int32)), (.int (0 : Int32)), (.int (0 : Int32)), (.int (0 : Int32)), (.int (0 : Int32)), (.int (0 : Int32)), (.int (0 : Int32)), (.int (0 : Int32)), (.int (0 : Int32)), (.int (0 : Int32)), (.int (0 : Int32)), (.int (0 : Int32)), (.int (0 : Int32)), (.int (0 : Int32)), (.int (0 : Int32)), (.int (0 : Int32)), (.int (0 : Int32)), (.int (0 : Int32)), (.int (0 : Int32)), (.int (0 : Int32)), (.int (0 : Int32)), (.int (0 : Int32)), (.int (0 : Int32)), (.int (0 : Int32)), (.int (0 : Int32)), (.int (0 : Int32)), (.int (0 : Int32)), (.int (0 : Int32))] := A405
      refine W.dup (pc' := 662) X d_m4_661 rfl rfl ?_
      refine W.iconst (pc' := 663) X (4 : Int32) d_m4_662 (by decide) rfl ?_
      refine W.bipush (pc' := 665) X (48 : Int32) d_m4_663 (by decide) rfl ?_
      refine W.castore (pc' := 666) (i := 4) X A405 (by decide) rfl (ltb rfl) (show nar .char (48 : Int32) = (48 : Int32) from by decide) g391 nb392 d_m4_665 rfl fun T h406 X K407 A408 => ?_
      have A408 : Ar Z h406 a388 .char [(.int (48 : Int32)), (.int (48 : Int32)), (.int (48 : Int32)), (.int (48 : Int32)), (.int (48 : Int32)), (.int (0 : Int32)), (.int (0 : Int32)), (.int (0 : Int32)), (.int (0 : Int32)), (.int (0 : Int32)), (.int (0 : Int32)), (.int (0 : Int32)), (.int (0 : Int32)), (.int (0 : Int32)), (.int (0 : Int32)), (.int (0 : Int32)), (.int (0 : Int32)), (.int (0 : Int32)), (.int (0 : Int32)), (.int (0 : Int32)), (.int (0 : Int32)), (.int (0 : Int32)), (.int (0 : Int32)), (.int (0 : Int32)), (.int (0 : Int32)), (.int (0 : Int32)), (.int (0 : Int32)), (.int (0 : Int32)), (.int (0 : Int32)), (.int (0 : Int32)), (.int (0 : Int32)), (.int (0 : Int32))] := A408
      refine W.dup (pc' := 667) X d_m4_666 rfl rfl ?_
      refine W.iconst (pc' := 668) X (5 : Int32) d_m4_667 (by decide) rfl ?_
      refine W.bipush (pc' := 670) X (48 : Int32) d_m4_668 (by decide) rfl ?_
      refine W.castore (pc' := 671) (i := 5) X A408 (by decide) rfl (ltb rfl) (show nar .char (48 : Int32) = (48 : Int32) from by decide) g391 nb392 d_m4_670 rfl fun T h409 X K410 A411 => ?_
      have A411 : Ar Z h409 a388 .char [(.int (48 : Int32)), (.int (48 : Int32)), (.int (48 : Int32)), (.int (48 : Int32)), (.int (48 : Int32)), (.int (48 : Int32)), (.int (0 : Int32)), (.int (0 : Int32)), (.int (0 : Int32)), (.int (0 : Int32)), (.int (0 : Int32)), (.int (0 : Int32)), (.int (0 : Int32)), (.int (0 : Int32)), (.int (0 : Int32)), (.int (0 : Int32)), (.int (0 : Int32)), (.int (0 : Int32)), (.int (0 : Int32)), (.int (0 : Int32)), (.int (0 : Int32)), (.int (0 : Int32)), (.int (0 : Int32)), (.int (0 : Int32)), (.int (0 : Int32)), (.int (0 : Int32)), (.int (0 : Int32)), (.int (0 : Int32)), (.int (0 : Int32)), (.int (0 : Int32)), (.int (0 : Int32)), (.int (0 : Int32))] := A411
      refine W.dup (pc' := 672) X d_m4_671 rfl rfl ?_
      refine W.bipush (pc' := 674) X (6 : Int32) d_m4_672 (by decide) rfl ?_
      refine W.bipush (pc' := 676) X (48 : Int32) d_m4_674 (by decide) rfl ?_
      refine W.castore (pc' := 677) (i := 6) X A411 (by decide) rfl (ltb rfl) (show nar .char (48 : Int32) = (48 : Int32) from by decide) g391 nb392 d_m4_676 rfl fun T h412 X K413 A414 => ?_
      have A414 : Ar Z h412 a388 .char [(.int (48 : Int32)), (.int (48 : Int32)), (.int (48 : Int32)), (.int (48 : Int32)), (.int (48 : Int32)), (.int (48 : Int32)), (.int (48 : Int32)), (.int (0 : Int32)), (.int (0 : Int32)), (.int (0 : Int32)), (.int (0 : Int32)), (.int (0 : Int32)), (.int (0 : Int32)), (.int (0 : Int32)), (.int (0 : Int32)), (.int (0 : Int32)), (.int (0 : Int32)), (.int (0 : Int32)), (.int (0 : Int32)), (.int (0 : Int32)), (.int (0 : Int32)), (.int (0 : Int32)), (.int (0 : Int32)), (.int (0 : Int32)), (.int (0 : Int32)), (.int (0 : Int32)), (.int (0 : Int32)), (.int (0 : Int32)), (.int (0 : Int32)), (.int (0 : Int32)), (.int (0 : Int32)), (.int (0 : Int32))] := A414
      refine W.dup (pc' := 678) X d_m4_677 rfl rfl ?_
      refine W.bipush (pc' := 680) X (7 : Int32) d_m4_678 (by decide) rfl ?_
      refine W.bipush (pc' := 682) X (48 : Int32) d_m4_680 (by decide) rfl ?_
      refine W.castore (pc' := 683) (i := 7) X A414 (by decide) rfl (ltb rfl) (show nar .char (48 : Int32) = (48 : Int32) from by decide) g391 nb392 d_m4_682 rfl fun T h415 X K416 A417 => ?_
      have A417 : Ar Z h415 a388 .char [(.int (48 : Int32)), (.int (48 : Int32)), (.int (48 : Int32)), (.int (48 : Int32)), (.int (48 : Int32)), (.int (48 : Int32)), (.int (48 : Int32)), (.int (48 : Int32)), (.int (0 : Int32)), (.int (0 : Int32)), (.int (0 : Int32)), (.int (0 : Int32)), (.int (0 : Int32)), (.int (0 : Int32)), (.int (0 : Int32)), (.int (0 : Int32)), (.int (0 : Int32)), (.int (0 : Int32)), (.int (0 : Int32)), (.int (0 : Int32)), (.int (0 : Int32)), (.int (0 : Int32)), (.int (0 : Int32)), (.int (0 : Int32)), (.int (0 : Int32)), (.int (0 : Int32)), (.int (0 : Int32)), (.int (0 : Int32)), (.int (0 : Int32)), (.int (0 : Int32)), (.int (0 : Int32)), (.int (0 : Int32))] := A417
      refine W.dup (pc' := 684) X d_m4_683 rfl rfl ?_
      refine W.bipush (pc' := 686) X (8 : Int32) d_m4_684 (by decide) rfl ?_
      refine W.bipush (pc' := 688) X (48 : Int32) d_m4_686 (by decide) rfl ?_
      refine W.castore (pc' := 689) (i := 8) X A417 (by decide) rfl (ltb rfl) (show nar .char (48 : Int32) = (48 : Int32) from by decide) g391 nb392 d_m4_688 rfl fun T h418 X K419 A420 => ?_
      have A420 : Ar Z h418 a388 .char [(.int (48 : Int32)), (.int (48 : Int32)), (.int (48 : Int32)), (.int (48 : Int32)), (.int (48 : Int32)), (.int (48 : Int32)), (.int (48 : Int32)), (.int (48 : Int32)), (.int (48 : Int32)), (.int (0 : Int32)), (.int (0 : Int32)), (.int (0 : Int32)), (.int (0 : Int32)), (.int (0 : Int32)), (.int (0 : Int32)), (.int (0 : Int32)), (.int (0 : Int32)), (.int (0 : Int32)), (.int (0 : Int32)), (.int (0 : Int32)), (.int (0 : Int32)), (.int (0 : Int32)), (.int (0 : Int32)), (.int (0 : Int32)), (.int (0 : Int32)), (.int (0 : Int32)), (.int (0 : Int32)), (.int (0 : Int32)), (.int (0 : Int32)), (.int (0 : Int32)), (.int (0 : Int32)), (.int (0 : Int32))] := A420
      refine W.dup (pc' := 690) X d_m4_689 rfl rfl ?_
      refine W.bipush (pc' := 692) X (9 : Int32) d_m4_690 (by decide) rfl ?_
      refine W.bipush (pc' := 694) X (48 : Int32) d_m4_692 (by decide) rfl ?_
      refine W.castore (pc' := 695) (i := 9) X A420 (by decide) rfl (ltb rfl) (show nar .char (48 : Int32) = (48 : Int32) from by decide) g391 nb392 d_m4_694 rfl fun T h421 X K422 A423 => ?_
      have A423 : Ar Z h421 a388 .char [(.int (48 : Int32)), (.int (48 : Int32)), (.int (48 : Int32)), (.int (48 : Int32)), (.int (48 : Int32)), (.int (48 : Int32)), (.int (48 : Int32)), (.int (48 : Int32)), (.int (48 : Int32)), (.int (48 : Int32)), (.int (0 : Int32)), (.int (0 : Int32)), (.int (0 : Int32)), (.int (0 : Int32)), (.int (0 : Int32)), (.int (0 : Int32)), (.int (0 : Int32)), (.int (0 : Int32)), (.int (0 : Int32)), (.int (0 : Int32)), (.int (0 : Int32)), (.int (0 : Int32)), (.int (0 : Int32)), (.int (0 : Int32)), (.int (0 : Int32)), (.int (0 : Int32)), (.int (0 : Int32)), (.int (0 : Int32)), (.int (0 : Int32)), (.int (0 : Int32)), (.int (0 : Int32)), (.int (0 : Int32))] := A423
      refine W.dup (pc' := 696) X d_m4_695 rfl rfl ?_
      refine W.bipush (pc' := 698) X (10 : Int32) d_m4_696 (by decide) rfl ?_
      refine W.bipush (pc' := 700) X (48 : Int32) d_m4_698 (by decide) rfl ?_
      refine W.castore (pc' := 701) (i := 10) X A423 (by decide) rfl (ltb rfl) (show nar .char (48 : Int32) = (48 : Int32) from by decide) g391 nb392 d_m4_700 rfl fun T h424 X K425 A426 => ?_
      have A426 : Ar Z h424 a388 .char [(.int (48 : Int32)), (.int (48 : Int32)), (.int (48 : Int32)), (.int (48 : Int32)), (.int (48 : Int32)), (.int (48 : Int32)), (.int (48 : Int32)), (.int (48 : Int32)), (.int (48 : Int32)), (.int (48 : Int32)), (.int (48 : Int32)), (.int (0 : Int32)), (.int (0 : Int32)), (.int (0 : Int32)), (.int (0 : Int32)), (.int (0 : Int32)), (.int (0 : Int32)), (.int (0 : Int32)), (.int (0 : Int32)), (.int (0 : Int32)), (.int (0 : Int32)), (.int (0 : Int32)), (.int (0 : Int32)), (.int (0 : Int32)), (.int (0 : Int32)), (.int (0 : Int32)), (.int (0 : Int32)), (.int (0 : Int32)), (.int (0 : Int32)), (.int (0 : Int32)), (.int (0 : Int32)), (.int (0 : Int32))] := A426
      refine W.dup (pc' := 702) X d_m4_701 rfl rfl ?_
      refine W.bipush (pc' := 704) X (11 : Int32) d_m4_702 (by decide) rfl ?_
      refine W.bipush (pc' := 706) X (48 : Int32) d_m4_704 (by decide) rfl ?_
      refine W.castore (pc' := 707) (i := 11) X A426 (by decide) rfl (ltb rfl) (show nar .char (48 : Int32) = (48 : Int32) from by decide) g391 nb392 d_m4_706 rfl fun T h427 X K428 A429 => ?_
      have A429 : Ar Z h427 a388 .char [(.int (48 : Int32)), (.int (48 : Int32)), (.int (48 : Int32)), (.int (48 : Int32)), (.int (48 : Int32)), (.int (48 : Int32)), (.int (48 : Int32)), (.int (48 : Int32)), (.int (48 : Int32)), (.int (48 : Int32)), (.int (48 : Int32)), (.int (48 : Int32)), (.int (0 : Int32)), (.int (0 : Int32)), (.int (0 : Int32)), (.int (0 : Int32)), (.int (0 : Int32)), (.int (0 : Int32)), (.int (0 : Int32)), (.int (0 : Int32)), (.int (0 : Int32)), (.int (0 : Int32)), (.int (0 : Int32)), (.int (0 : Int32)), (.int (0 : Int32)), (.int (0 : Int32)), (.int (0 : Int32)), (.int (0 : Int32)), (.int (0 : Int32)), (.int (0 : Int32)), (.int (0 : Int32)), (.int (0 : Int32))] := A429
      refine W.dup (pc' := 708) X d_m4_707 rfl rfl ?_
      refine W.bipush (pc' := 710) X (12 : Int32) d_m4_708 (by decide) rfl ?_
      refine W.bipush (pc' := 712) X (48 : Int32) d_m4_710 (by decide) rfl ?_
      refine W.castore (pc' := 713) (i := 12) X A429 (by decide) rfl (ltb rfl) (show nar .char (48 : Int32) = (48 : Int32) from by decide) g391 nb392 d_m4_712 rfl fun T h430 X K431 A432 => ?_
      have A432 : Ar Z h430 a388 .char [(.int (48 : Int32)), (.int (48 : Int32)), (.int (48 : Int32)), (.int (48 : Int32)), (.int (48 : Int32)), (.int (48 : Int32)), (.int (48 : Int32)), (.int (48 : Int32)), (.int (48 : Int32)), (.int (48 : Int32)), (.int (48 : Int32)), (.int (48 : Int32)), (.int (48 : Int32)), (.int (0 : Int32)), (.int (0 : Int32)), (.int (0 : Int32)), (.int (0 : Int32)), (.int (0 : Int32)), (.int (0 : Int32)), (.int (0 : Int32)), (.int (0 : Int32)), (.int (0 : Int32)), (.int (0 : Int32)), (.int (0 : Int32)), (.int (0 : Int32)), (.int (0 : Int32)), (.int (0 : Int32)), (.int (0 : Int32)), (.int (0 : Int32)), (.int (0 : Int32)), (.int (0 : Int32)), (.int (0 : Int32))] := A432
      refine W.dup (pc' := 714) X d_m4_713 rfl rfl ?_
      refine W.bipush (pc' := 716) X (13 : Int32) d_m4_714 (by decide) rfl ?_
      refine W.bipush (pc' := 718) X (48 : Int32) d_m4_716 (by decide) rfl ?_
      refine W.castore (pc' := 719) (i := 13) X A432 (by decide) rfl (ltb rfl) (show nar .char (48 : Int32) = (48 : Int32) from by decide) g391 nb392 d_m4_718 rfl fun T h433 X K434 A435 => ?_
      have A435 : Ar Z h433 a388 .char [(.int (48 : Int32)), (.int (48 : Int32)), (.int (48 : Int32)), (.int (48 : Int32)), (.int (48 : Int32)), (.int (48 : Int32)), (.int (48 : Int32)), (.int (48 : Int32)), (.int (48 : Int32)), (.int (48 : Int32)), (.int (48 : Int32)), (.int (48 : Int32)), (.int (48 : Int32)), (.int (48 : Int32)), (.int (0 : Int32)), (.int (0 : Int32)), (.int (0 : Int32)), (.int (0 : Int32)), (.int (0 : Int32)), (.int (0 : Int32)), (.int (0 : Int32)), (.int (0 : Int32)), (.int (0 : Int32)), (.int (0 : Int32)), (.int (0 : Int32)), (.int (0 : Int32)), (.int (0 : Int32)), (.int (0 : Int32)), (.int (0 : Int32)), (.int (0 : Int32)), (.int (0 : Int32)), (.int (0 : Int32))] := A435
      refine W.dup (pc' := 720) X d_m4_719 rfl rfl ?_
      refine W.bipush (pc' := 722) X (14 : Int32) d_m4_720 (by decide) rfl ?_
      refine W.bipush (pc' := 724) X (48 : Int32) d_m4_722 (by decide) rfl ?_
      refine W.castore (pc' := 725) (i := 14) X A435 (by decide) rfl (ltb rfl) (show nar .char (48 : Int32) = (48 : Int32) from by decide) g391 nb392 d_m4_724 rfl fun T h436 X K437 A438 => ?_
      have A438 : Ar Z h436 a388 .char [(.int (48 : Int32)), (.int (48 : Int32)), (.int (48 : Int32)), (.int (48 : Int32)), (.int (48 : Int32)), (.int (48 : Int32)), (.int (48 : Int32)), (.int (48 : Int32)), (.int (48 : Int32)), (.int (48 : Int32)), (.int (48 : Int32)), (.int (48 : Int32)), (.int (48 : Int32)), (.int (48 : Int32)), (.int (48 : Int32)), (.int (0 : Int32)), (.int (0 : Int32)), (.int (0 : Int32)), (.int (0 : Int32)), (.int (0 : Int32)), (.int (0 : Int32)), (.int (0 : Int32)), (.int (0 : Int32)), (.int (0 : Int32)), (.int (0 : Int32)), (.int (0 : Int32)), (.int (0 : Int32)), (.int (0 : Int32)), (.int (0 : Int32)), (.int (0 : Int32)), (.int (0 : Int32)), (.int (0 : Int32))] := A438
      refine W.dup (pc' := 726) X d_m4_725 rfl rfl ?_
      refine W.bipush (pc' := 728) X (15 : Int32) d_m4_726 (by decide) rfl ?_
      refine W.bipush (pc' := 730) X (48 : Int32) d_m4_728 (by decide) rfl ?_
      refine W.castore (pc' := 731) (i := 15) X A438 (by decide) rfl (ltb rfl) (show nar .char (48 : Int32) = (48 : Int32) from by decide) g391 nb392 d_m4_730 rfl fun T h439 X K440 A441 => ?_
      have A441 : Ar Z h439 a388 .char [(.int (48 : Int32)), (.int (48 : Int32)), (.int (48 : Int32)), (.int (48 : Int32)), (.int (48 : Int32)), (.int (48 : Int32)), (.int (48 : Int32)), (.int (48 : Int32)), (.int (48 : Int32)), (.int (48 : Int32)), (.int (48 : Int32)), (.int (48 : Int32)), (.int (48 : Int32)), (.int (48 : Int32)), (.int (48 : Int32)), (.int (48 : Int32)), (.int (0 : Int32)), (.int (0 : Int32)), (.int (0 : Int32)), (.int (0 : Int32)), (.int (0 : Int32)), (.int (0 : Int32)), (.int (0 : Int32)), (.int (0 : Int32)), (.int (0 : Int32)), (.int (0 : Int32)), (.int (0 : Int32)), (.int (0 : Int32)), (.int (0 : Int32)), (.int (0 : Int32)), (.int (0 : Int32)), (.int (0 : Int32))] := A441
      refine W.dup (pc' := 732) X d_m4_731 rfl rfl ?_
      refine W.bipush (pc' := 734) X (16 : Int32) d_m4_732 (by decide) rfl ?_
      refine W.bipush (pc' := 736) X (48 : Int32) d_m4_734 (by decide) rfl ?_
      refine W.castore (pc' := 737) (i := 16) X A441 (by decide) rfl (ltb rfl) (show nar .char (48 : Int32) = (48 : Int32) from by decide) g391 nb392 d_m4_736 rfl fun T h442 X K443 A444 => ?_
      have A444 : Ar Z h442 a388 .char [(.int (48 : Int32)), (.int (48 : Int32)), (.int (48 : Int32)), (.int (48 : Int32)), (.int (48 : Int32)), (.int (48 : Int32)), (.int (48 : Int32)), (.int (48 : Int32)), (.int (48 : Int32)), (.int (48 : Int32)), (.int (48 : Int32)), (.int (48 : Int32)), (.int (48 : Int32)), (.int (48 : Int32)), (.int (48 : Int32)), (.int (48 : Int32)), (.int (48 : Int32)), (.int (0 : Int32)), (.int (0 : Int32)), (.int (0 : Int32)), (.int (0 : Int32)), (.int (0 : Int32)), (.int (0 : Int32)), (.int (0 : Int32)), (.int (0 : Int32)), (.int (0 : Int32)), (.int (0 : Int32)), (.int (0 : Int32)), (.int (0 : Int32)), (.int (0 : Int32)), (.int (0 : Int32)), (.int (0 : Int32))] := A444
      refine W.dup (pc' := 738) X d_m4_737 rfl rfl ?_
      refine W.bipush (pc' := 740) X (17 : Int32) d_m4_738 (by decide) rfl ?_
      refine W.bipush (pc' := 742) X (48 : Int32) d_m4_740 (by decide) rfl ?_
      refine W.castore (pc' := 743) (i := 17) X A444 (by decide) rfl (ltb rfl) (show nar .char (48 : Int32) = (48 : Int32) from by decide) g391 nb392 d_m4_742 rfl fun T h445 X K446 A447 => ?_
      have A447 : Ar Z h445 a388 .char [(.int (48 : Int32)), (.int (48 : Int32)), (.int (48 : Int32)), (.int (48 : Int32)), (.int (48 : Int32)), (.int (48 : Int32)), (.int (48 : Int32)), (.int (48 : Int32)), (.int (48 : Int32)), (.int (48 : Int32)), (.int (48 : Int32)), (.int (48 : Int32)), (.int (48 : Int32)), (.int (48 : Int32)), (.int (48 : Int32)), (.int (48 : Int32)), (.int (48 : Int32)), (.int (48 : Int32)), (.int (0 : Int32)), (.int (0 : Int32)), (.int (0 : Int32)), (.int (0 : Int32)), (.int (0 : Int32)), (.int (0 : Int32)), (.int (0 : Int32)), (.int (0 : Int32)), (.int (0 : Int32)), (.int (0 : Int32)), (.int (0 : Int32)), (.int (0 : Int32)), (.int (0 : Int32)), (.int (0 : Int32))] := A447
      refine W.dup (pc' := 744) X d_m4_743 rfl rfl ?_
      refine W.bipush (pc' := 746) X (18 : Int32) d_m4_744 (by decide) rfl ?_
      refine W.bipush (pc' := 748) X (48 : Int32) d_m4_746 (by decide) rfl ?_
      refine W.castore (pc' := 749) (i := 18) X A447 (by decide) rfl (ltb rfl) (show nar .char (48 : Int32) = (48 : Int32) from by decide) g391 nb392 d_m4_748 rfl fun T h448 X K449 A450 => ?_
      have A450 : Ar Z h448 a388 .char [(.int (48 : Int32)), (.int (48 : Int32)), (.int (48 : Int32)), (.int (48 : Int32)), (.int (48 : Int32)), (.int (48 : Int32)), (.int (48 : Int32)), (.int (48 : Int32)), (.int (48 : Int32)), (.int (48 : Int32)), (.int (48 : Int32)), (.int (48 : Int32)), (.int (48 : Int32)), (.int (48 : Int32)), (.int (48 : Int32)), (.int (48 : Int32)), (.int (48 : Int32)), (.int (48 : Int32)), (.int (48 : Int32)), (.int (0 : Int32)), (.int (0 : Int32)), (.int (0 : Int32)), (.int (0 : Int32)), (.int (0 : Int32)), (.int (0 : Int32)), (.int (0 : Int32)), (.int (0 : Int32)), (.int (0 : Int32)), (.int (0 : Int32)), (.int (0 : Int32)), (.int (0 : Int32)), (.int (0 : Int32))] := A450
      refine W.dup (pc' := 750) X d_m4_749 rfl rfl ?_
      refine W.bipush (pc' := 752) X (19 : Int32) d_m4_750 (by decide) rfl ?_
      refine W.bipush (pc' := 754) X (48 : Int32) d_m4_752 (by decide) rfl ?_
      refine W.castore (pc' := 755) (i := 19) X A450 (by decide) rfl (ltb rfl) (show nar .char (48 : Int32) = (48 : Int32) from by decide) g391 nb392 d_m4_754 rfl fun T h451 X K452 A453 => ?_
      have A453 : Ar Z h451 a388 .char [(.int (48 : Int32)), (.int (48 : Int32)), (.int (48 : Int32)), (.int (48 : Int32)), (.int (48 : Int32)), (.int (48 : Int32)), (.int (48 : Int32)), (.int (48 : Int32)), (.int (48 : Int32)), (.int (48 : Int32)), (.int (48 : Int32)), (.int (48 : Int32)), (.int (48 : Int32)), (.int (48 : Int32)), (.int (48 : Int32)), (.int (48 : Int32)), (.int (48 : Int32)), (.int (48 : Int32)), (.int (48 : Int32)), (.int (48 : Int32)), (.int (0 : Int32)), (.int (0 : Int32)), (.int (0 : Int32)), (.int (0 : Int32)), (.int (0 : Int32)), (.int (0 : Int32)), (.int (0 : Int32)), (.int (0 : Int32)), (.int (0 : Int32)), (.int (0 : Int32)), (.int (0 : Int32)), (.int (0 : Int32))] := A453
      refine W.dup (pc' := 756) X d_m4_755 rfl rfl ?_
      refine W.bipush (pc' := 758) X (20 : Int32) d_m4_756 (by decide) rfl ?_
      refine W.bipush (pc' := 760) X (48 : Int32) d_m4_758 (by decide) rfl ?_
      refine W.castore (pc' := 761) (i := 20) X A453 (by decide) rfl (ltb rfl) (show nar .char (48 : Int32) = (48 : Int32) from by decide) g391 nb392 d_m4_760 rfl fun T h454 X K455 A456 => ?_
      have A456 : Ar Z h454 a388 .char [(.int (48 : Int32)), (.int (48 : Int32)), (.int (48 : Int32)), (.int (48 : Int32)), (.int (48 : Int32)), (.int (48 : Int32)), (.int (48 : Int32)), (.int (48 : Int32)), (.int (48 : Int32)), (.int (48 : Int32)), (.int (48 : Int32)), (.int (48 : Int32)), (.int (48 : Int32)), (.int (48 : Int32)), (.int (48 : Int32)), (.int (48 : Int32)), (.int (48 : Int32)), (.int (48 : Int32)), (.int (48 : Int32)), (.int (48 : Int32)), (.int (48 : Int32)), (.int (0 : Int32)), (.int (0 : Int32)), (.int (0 : Int32)), (.int (0 : Int32)), (.int (0 : Int32)), (.int (0 : Int32)), (.int (0 : Int32)), (.int (0 : Int32)), (.int (0 : Int32)), (.int (0 : Int32)), (.int (0 : Int32))] := A456
      refine W.dup (pc' := 762) X d_m4_761 rfl rfl ?_
      refine W.bipush (pc' := 764) X (21 : Int32) d_m4_762 (by decide) rfl ?_
      refine W.bipush (pc' := 766) X (48 : Int32) d_m4_764 (by decide) rfl ?_
      refine W.castore (pc' := 767) (i := 21) X A456 (by decide) rfl (ltb rfl) (show nar .char (48 : Int32) = (48 : Int32) from by decide) g391 nb392 d_m4_766 rfl fun T h457 X K458 A459 => ?_
      have A459 : Ar Z h457 a388 .char [(.int (48 : Int32)), (.int (48 : Int32)), (.int (48 : Int32)), (.int (48 : Int32)), (.int (48 : Int32)), (.int (48 : Int32)), (.int (48 : Int32)), (.int (48 : Int32)), (.int (48 : Int32)), (.int (48 : Int32)), (.int (48 : Int32)), (.int (48 : Int32)), (.int (48 : Int32)), (.int (48 : Int32)), (.int (48 : Int32)), (.int (48 : Int32)), (.int (48 : Int32)), (.int (48 : Int32)), (.int (48 : Int32)), (.int (48 : Int32)), (.int (48 : Int32)), (.int (48 : Int32)), (.int (0 : Int32)), (.int (0 : Int32)), (.int (0 : Int32)), (.int (0 : Int32)), (.int (0 : Int32)), (.int (0 : Int32)), (.int (0 : Int32)), (.int (0 : Int32)), (.int (0 : Int32)), (.int (0 : Int32))] := A459
      refine W.dup (pc' := 768) X d_m4_767 rfl rfl ?_
      refine W.bipush (pc' := 770) X (22 : Int32) d_m4_768 (by decide) rfl ?_
      refine W.bipush (pc' := 772) X (48 : Int32) d_m4_770 (by decide) rfl ?_
      refine W.castore (pc' := 773) (i := 22) X A459 (by decide) rfl (ltb rfl) (show nar .char (48 : Int32) = (48 : Int32) from by decide) g391 nb392 d_m4_772 rfl fun T h460 X K461 A462 => ?_
      have A462 : Ar Z h460 a388 .char [(.int (48 : Int32)), (.int (48 : Int32)), (.int (48 : Int32)), (.int (48 : Int32)), (.int (48 : Int32)), (.int (48 : Int32)), (.int (48 : Int32)), (.int (48 : Int32)), (.int (48 : Int32)), (.int (48 : Int32)), (.int (48 : Int32)), (.int (48 : Int32)), (.int (48 : Int32)), (.int (48 : Int32)), (.int (48 : Int32)), (.int (48 : Int32)), (.int (48 : Int32)), (.int (48 : Int32)), (.int (48 : Int32)), (.int (48 : Int32)), (.int (48 : Int32)), (.int (48 : Int32)), (.int (48 : Int32)), (.int (0 : Int32)), (.int (0 : Int32)), (.int (0 : Int32)), (.int (0 : Int32)), (.int (0 : Int32)), (.int (0 : Int32)), (.int (0 : Int32)), (.int (0 : Int32)), (.int (0 : Int32))] := A462
      refine W.dup (pc' := 774) X d_m4_773 rfl rfl ?_
      refine W.bipush (pc' := 776) X (23 : Int32) d_m4_774 (by decide) rfl ?_
      refine W.bipush (pc' := 778) X (48 : Int32) d_m4_776 (by decide) rfl ?_
      refine W.castore (pc' := 779) (i := 23) X A462 (by decide) rfl (ltb rfl) (show nar .char (48 : Int32) = (48 : Int32) from by decide) g391 nb392 d_m4_778 rfl fun T h463 X K464 A465 => ?_
      have A465 : Ar Z h463 a388 .char [(.int (48 : Int32)), (.int (48 : Int32)), (.int (48 : Int32)), (.int (48 : Int32)), (.int (48 : Int32)), (.int (48 : Int32)), (.int (48 : Int32)), (.int (48 : Int32)), (.int (48 : Int32)), (.int (48 : Int32)), (.int (48 : Int32)), (.int (48 : Int32)), (.int (48 : Int32)), (.int (48 : Int32)), (.int (48 : Int32)), (.int (48 : Int32)), (.int (48 : Int32)), (.int (48 : Int32)), (.int (48 : Int32)), (.int (48 : Int32)), (.int (48 : Int32)), (.int (48 : Int32)), (.int (48 : Int32)), (.int (48 : Int32)), (.int (0 : Int32)), (.int (0 : Int32)), (.int (0 : Int32)), (.int (0 : Int32)), (.int (0 : Int32)), (.int (0 : Int32)), (.int (0 : Int32)), (.int (0 : Int32))] := A465
      refine W.dup (pc' := 780) X d_m4_779 rfl rfl ?_
      refine W.bipush (pc' := 782) X (24 : Int32) d_m4_780 (by decide) rfl ?_
      refine W.bipush (pc' := 784) X (48 : Int32) d_m4_782 (by decide) rfl ?_
      refine W.castore (pc' := 785) (i := 24) X A465 (by decide) rfl (ltb rfl) (show nar .char (48 : Int32) = (48 : Int32) from by decide) g391 nb392 d_m4_784 rfl fun T h466 X K467 A468 => ?_
      have A468 : Ar Z h466 a388 .char [(.int (48 : Int32)), (.int (48 : Int32)), (.int (48 : Int32)), (.int (48 : Int32)), (.int (48 : Int32)), (.int (48 : Int32)), (.int (48 : Int32)), (.int (48 : Int32)), (.int (48 : Int32)), (.int (48 : Int32)), (.int (48 : Int32)), (.int (48 : Int32)), (.int (48 : Int32)), (.int (48 : Int32)), (.int (48 : Int32)), (.int (48 : Int32)), (.int (48 : Int32)), (.int (48 : Int32)), (.int (48 : Int32)), (.int (48 : Int32)), (.int (48 : Int32)), (.int (48 : Int32)), (.int (48 : Int32)), (.int (48 : Int32)), (.int (48 : Int32)), (.int (0 : Int32)), (.int (0 : Int32)), (.int (0 : Int32)), (.int (0 : Int32)), (.int (0 : Int32)), (.int (0 : Int32)), (.int (0 : Int32))] := A468
      refine W.dup (pc' := 786) X d_m4_785 rfl rfl ?_
      refine W.bipush (pc' := 788) X (25 : Int32) d_m4_786 (by decide) rfl ?_
      refine W.bipush (pc' := 790) X (48 : Int32) d_m4_788 (by decide) rfl ?_
      refine W.castore (pc' := 791) (i := 25) X A468 (by decide) rfl (ltb rfl) (show nar .char (48 : Int32) = (48 : Int32) from by decide) g391 nb392 d_m4_790 rfl fun T h469 X K470 A471 => ?_
      have A471 : Ar Z h469 a388 .char [(.int (48 : Int32)), (.int (48 : Int32)), (.int (48 : Int32)), (.int (48 : Int32)), (.int (48 : Int32)), (.int (48 : Int32)), (.int (48 : Int32)), (.int (48 : Int32)), (.int (48 : Int32)), (.int (48 : Int32)), (.int (48 : Int32)), (.int (48 : Int32)), (.int (48 : Int32)), (.int (48 : Int32)), (.int (48 : Int32)), (.int (48 : Int32)), (.int (48 : Int32)), (.int (48 : Int32)), (.int (48 : Int32)), (.int (48 : Int32)), (.int (48 : Int32)), (.int (48 : Int32)), (.int (48 : Int32)), (.int (48 : Int32)), (.int (48 : Int32)), (.int (48 : Int32)), (.int (0 : Int32)), (.int (0 : Int32)), (.int (0 : Int32)), (.int (0 : Int32)), (.int (0 : Int32)), (.int (0 : Int32))] := A471
      refine W.dup (pc' := 792) X d_m4_791 rfl rfl ?_
      refine W.bipush (pc' := 794) X (26 : Int32) d_m4_792 (by decide) rfl ?_
      refine W.bipush (pc' := 796) X (48 : Int32) d_m4_794 (by decide) rfl ?_
      refine W.castore (pc' := 797) (i := 26) X A471 (by decide) rfl (ltb rfl) (show nar .char (48 : Int32) = (48 : Int32) from by decide) g391 nb392 d_m4_796 rfl fun T h472 X K473 A474 => ?_
      have A474 : Ar Z h472 a388 .char [(.int (48 : Int32)), (.int (48 : Int32)), (.int (48 : Int32)), (.int (48 : Int32)), (.int (48 : Int32)), (.int (48 : Int32)), (.int (48 : Int32)), (.int (48 : Int32)), (.int (48 : Int32)), (.int (48 : Int32)), (.int (48 : Int32)), (.int (48 : Int32)), (.int (48 : Int32)), (.int (48 : Int32)), (.int (48 : Int32)), (.int (48 : Int32)), (.int (48 : Int32)), (.int (48 : Int32)), (.int (48 : Int32)), (.int (48 : Int32)), (.int (48 : Int32)), (.int (48 : Int32)), (.int (48 : Int32)), (.int (48 : Int32)), (.int (48 : Int32)), (.int (48 : Int32)), (.int (48 : Int32)), (.int (0 : Int32)), (.int (0 : Int32)), (.int (0 : Int32)), (.int (0 : Int32)), (.int (0 : Int32))] := A474
      refine W.dup (pc' := 798) X d_m4_797 rfl rfl ?_
      refine W.bipush (pc' := 800) X (27 : Int32) d_m4_798 (by decide) rfl ?_
      refine W.bipush (pc' := 802) X (48 : Int32) d_m4_800 (by decide) rfl ?_
      refine W.castore (pc' := 803) (i := 27) X A474 (by decide) rfl (ltb rfl) (show nar .char (48 : Int32) = (48 : Int32) from by decide) g391 nb392 d_m4_802 rfl fun T h475 X K476 A477 => ?_
      have A477 : Ar Z h475 a388 .char [(.int (48 : Int32)), (.int (48 : Int32)), (.int (48 : Int32)), (.int (48 : Int32)), (.int (48 : Int32)), (.int (48 : Int32)), (.int (48 : Int32)), (.int (48 : Int32)), (.int (48 : Int32)), (.int (48 : Int32)), (.int (48 : Int32)), (.int (48 : Int32)), (.int (48 : Int32)), (.int (48 : Int32)), (.int (48 : Int32)), (.int (48 : Int32)), (.int (48 : Int32)), (.int (48 : Int32)), (.int (48 : Int32)), (.int (48 : Int32)), (.int (48 : Int32)), (.int (48 : Int32)), (.int (48 : Int32)), (.int (48 : Int32)), (.int (48 : Int32)), (.int (48 : Int32)), (.int (48 : Int32)), (.int (48 : Int32)), (.int (0 : Int32)), (.int (0 : Int32)), (.int (0 : Int32)), (.int (0 : Int32))] := A477
      refine W.dup (pc' := 804) X d_m4_803 rfl rfl ?_
      refine W.bipush (pc' := 806) X (28 : Int32) d_m4_804 (by decide) rfl ?_
      refine W.bipush (pc' := 808) X (48 : Int32) d_m4_806 (by decide) rfl ?_
      refine W.castore (pc' := 809) (i := 28) X A477 (by decide) rfl (ltb rfl) (show nar .char (48 : Int32) = (48 : Int32) from by decide) g391 nb392 d_m4_808 rfl fun T h478 X K479 A480 => ?_
      have A480 : Ar Z h478 a388 .char [(.int (48 : Int32)), (.int (48 : Int32)), (.int (48 : Int32)), (.int (48 : Int32)), (.int (48 : Int32)), (.int (48 : Int32)), (.int (48 : Int32)), (.int (48 : Int32)), (.int (48 : Int32)), (.int (48 : Int32)), (.int (48 : Int32)), (.int (48 : Int32)), (.int (48 : Int32)), (.int (48 : Int32)), (.int (48 : Int32)), (.int (48 : Int32)), (.int (48 : Int32)), (.int (48 : Int32)), (.int (48 : Int32)), (.int (48 : Int32)), (.int (48 : Int32)), (.int (48 : Int32)), (.int (48 : Int32)), (.int (48 : Int32)), (.int (48 : Int32)), (.int (48 : Int32)), (.int (48 : Int32)), (.int (48 : Int32)), (.int (48 : Int32)), (.int (0 : Int32)), (.int (0 : Int32)), (.int (0 : Int32))] := A480
      refine W.dup (pc' := 810) X d_m4_809 rfl rfl ?_
      refine W.bipush (pc' := 812) X (29 : Int32) d_m4_810 (by decide) rfl ?_
      refine W.bipush (pc' := 814) X (48 : Int32) d_m4_812 (by decide) rfl ?_
      refine W.castore (pc' := 815) (i := 29) X A480 (by decide) rfl (ltb rfl) (show nar .char (48 : Int32) = (48 : Int32) from by decide) g391 nb392 d_m4_814 rfl fun T h481 X K482 A483 => ?_
      have A483 : Ar Z h481 a388 .char [(.int (48 : Int32)), (.int (48 : Int32)), (.int (48 : Int32)), (.int (48 : Int32)), (.int (48 : Int32)), (.int (48 : Int32)), (.int (48 : Int32)), (.int (48 : Int32)), (.int (48 : Int32)), (.int (48 : Int32)), (.int (48 : Int32)), (.int (48 : Int32)), (.int (48 : Int32)), (.int (48 : Int32)), (.int (48 : Int32)), (.int (48 : Int32)), (.int (48 : Int32)), (.int (48 : Int32)), (.int (48 : Int32)), (.int (48 : Int32)), (.int (48 : Int32)), (.int (48 : Int32)), (.int (48 : Int32)), (.int (48 : Int32)), (.int (48 : Int32)), (.int (48 : Int32)), (.int (48 : Int32)), (.int (48 : Int32)), (.int (48 : Int32)), (.int (48 : Int32)), (.int (0 : Int32)), (.int (0 : Int32))] := A483
      refine W.dup (pc' := 816) X d_m4_815 rfl rfl ?_
      refine W.bipush (pc' := 818) X (30 : Int32) d_m4_816 (by decide) rfl ?_
      refine W.bipush (pc' := 820) X (48 : Int32) d_m4_818 (by decide) rfl ?_
      refine W.castore (pc' := 821) (i := 30) X A483 (by decide) rfl (ltb rfl) (show nar .char (48 : Int32) = (48 : Int32) from by decide) g391 nb392 d_m4_820 rfl fun T h484 X K485 A486 => ?_
      have A486 : Ar Z h484 a388 .char [(.int (48 : Int32)), (.int (48 : Int32)), (.int (48 : Int32)), (.int (48 : Int32)), (.int (48 : Int32)), (.int (48 : Int32)), (.int (48 : Int32)), (.int (48 : Int32)), (.int (48 : Int32)), (.int (48 : Int32)), (.int (48 : Int32)), (.int (48 : Int32)), (.int (48 : Int32)), (.int (48 : Int32)), (.int (48 : Int32)), (.int (48 : Int32)), (.int (48 : Int32)), (.int (48 : Int32)), (.int (48 : Int32)), (.int (48 : Int32)), (.int (48 : Int32)), (.int (48 : Int32)), (.int (48 : Int32)), (.int (48 : Int32)), (.int (48 : Int32)), (.int (48 : Int32)), (.int (48 : Int32)), (.int (48 : Int32)), (.int (48 : Int32)), (.int (48 : Int32)), (.int (48 : Int32)), (.int (0 : Int32))] := A486
      refine W.dup (pc' := 822) X d_m4_821 rfl rfl ?_
      refine W.bipush (pc' := 824) X (31 : Int32) d_m4_822 (by decide) rfl ?_
      refine W.bipush (pc' := 826) X (48 : Int32) d_m4_824 (by decide) rfl ?_
      refine W.castore (pc' := 827) (i := 31) X A486 (by decide) rfl (ltb rfl) (show nar .char (48 : Int32) = (48 : Int32) from by decide) g391 nb392 d_m4_826 rfl fun T h487 X K488 A489 => ?_
      have A489 : Ar Z h487 a388 .char [(.int (48 : Int32)), (.int (48 : Int32)), (.int (48 : Int32)), (.int (48 : Int32)), (.int (48 : Int32)), (.int (48 : Int32)), (.int (48 : Int32)), (.int (48 : Int32)), (.int (48 : Int32)), (.int (48 : Int32)), (.int (48 : Int32)), (.int (48 : Int32)), (.int (48 : Int32)), (.int (48 : Int32)), (.int (48 : Int32)), (.int (48 : Int32)), (.int (48 : Int32)), (.int (48 : Int32)), (.int (48 : Int32)), (.int (48 : Int32)), (.int (48 : Int32)), (.int (48 : Int32)), (.int (48 : Int32)), (.int (48 : Int32)), (.int (48 : Int32)), (.int (48 : Int32)), (.int (48 : Int32)), (.int (48 : Int32)), (.int (48 : Int32)), (.int (48 : Int32)), (.int (48 : Int32)), (.int (48 : Int32))] := A489
      refine W.astoreN (pc' := 828) (ls' := #[.val (.int i), .val (.int b), .val (.ref a388), .unset]) X d_m4_827 rfl rfl rfl ?_
      refine W.aloadN (pc' := 829) X d_m4_828 rfl rfl rfl ?_
      refine W.alen (pc' := 830) (z := (32 : Int32)) X A489 rfl d_m4_829 rfl ?_
      refine W.istoreN (pc' := 831) (ls' := #[.val (.int i), .val (.int b), .val (.ref a388), .val (.int (32 : Int32))]) X d_m4_830 rfl rfl ?_
      refine W.aloadN (pc' := 832) X d_m4_831 rfl rfl rfl ?_
      refine W.iconst (pc' := 833) X (0 : Int32) d_m4_832 (by decide) rfl ?_
      refine W.iloadN (pc' := 834) X d_m4_833 rfl rfl ?_
      refine W.callS (pc' := 837) (W := 2) (argsL := [(.int b)]) (st := [(.int (0 : Int32)), (.ref a388)]) (k' := 1) (n' := 32) X (c_hex (n := b) G X.en) (w15 G) (w16 G) (w17 G) (w6 G) (by decide) (by decide) (by decide) rfl (lenOf pd16 rfl) rfl rfl (Nat.le_of_eq rfl) d_m4_834 rfl (by decide) (by decide) (by decide) (by decide) (kp fun T X => ?_)
      refine W.castore (pc' := 838) (i := 0) X A489 (by decide) rfl (ltb rfl) (hex_nar (hexd_hex _)) g391 nb392 d_m4_837 rfl fun T h490 X K491 A492 => ?_
      have A492 : Ar Z h490 a388 .char [(.int (hexd b)), (.int (48 : Int32)), (.int (48 : Int32)), (.int (48 : Int32)), (.int (48 : Int32)), (.int (48 : Int32)), (.int (48 : Int32)), (.int (48 : Int32)), (.int (48 : Int32)), (.int (48 : Int32)), (.int (48 : Int32)), (.int (48 : Int32)), (.int (48 : Int32)), (.int (48 : Int32)), (.int (48 : Int32)), (.int (48 : Int32)), (.int (48 : Int32)), (.int (48 : Int32)), (.int (48 : Int32)), (.int (48 : Int32)), (.int (48 : Int32)), (.int (48 : Int32)), (.int (48 : Int32)), (.int (48 : Int32)), (.int (48 : Int32)), (.int (48 : Int32)), (.int (48 : Int32)), (.int (48 : Int32)), (.int (48 : Int32)), (.int (48 : Int32)), (.int (48 : Int32)), (.int (48 : Int32))] := A492
      refine W.aloadN (pc' := 839) X d_m4_838 rfl rfl rfl ?_
      refine W.iloadN (pc' := 840) X d_m4_839 rfl rfl ?_
      refine W.iconst (pc' := 841) X (2 : Int32) d_m4_840 (by decide) rfl ?_
      refine W.idiv (pc' := 842) (w := (16 : Int32)) X d_m4_841 (by decide) (by decide) rfl ?_
      refine W.iloadN (pc' := 843) X d_m4_842 rfl rfl ?_
      refine W.iconst (pc' := 844) X (4 : Int32) d_m4_843 (by decide) rfl ?_
      refine W.iushr (pc' := 845) (w := (XT.ushr b (4 : Int32))) X d_m4_844 rfl rfl ?_
      refine W.callS (pc' := 848) (W := 2) (argsL := [(.int (XT.ushr b (4 : Int32)))]) (st := [(.int (16 : Int32)), (.ref a388)]) (k' := 1) (n' := 32) X (c_hex (n := (XT.ushr b (4 : Int32))) G X.en) (w15 G) (w16 G) (w17 G) (w6 G) (by decide) (by decide) (by decide) rfl (lenOf pd16 rfl) rfl rfl (Nat.le_of_eq rfl) d_m4_845 rfl (by decide) (by decide) (by decide) (by decide) (kp fun T X => ?_)
      refine W.castore (pc' := 849) (i := 16) X A492 (by decide) rfl (ltb rfl) (hex_nar (hexd_hex _)) g391 nb392 d_m4_848 rfl fun T h493 X K494 A495 => ?_
      have A495 : Ar Z h493 a388 .char [(.int (hexd b)), (.int (48 : Int32)), (.int (48 : Int32)), (.int (48 : Int32)), (.int (48 : Int32)), (.int (48 : Int32)), (.int (48 : Int32)), (.int (48 : Int32)), (.int (48 : Int32)), (.int (48 : Int32)), (.int (48 : Int32)), (.int (48 : Int32)), (.int (48 : Int32)), (.int (48 : Int32)), (.int (48 : Int32)), (.int (48 : Int32)), (.int (hexd (XT.ushr b (4 : Int32)))), (.int (48 : Int32)), (.int (48 : Int32)), (.int (48 : Int32)), (.int (48 : Int32)), (.int (48 : Int32)), (.int (48 : Int32)), (.int (48 : Int32)), (.int (48 : Int32)), (.int (48 : Int32)), (.int (48 : Int32)), (.int (48 : Int32)), (.int (48 : Int32)), (.int (48 : Int32)), (.int (48 : Int32)), (.int (48 : Int32))] := A495
      refine W.aloadN (pc' := 850) X d_m4_849 rfl rfl rfl ?_
      refine W.iloadN (pc' := 851) X d_m4_850 rfl rfl ?_
      refine W.iconst (pc' := 852) X (1 : Int32) d_m4_851 (by decide) rfl ?_
      refine W.isub (pc' := 853) (w := (31 : Int32)) X d_m4_852 (by decide) rfl ?_
      refine W.iloadN (pc' := 854) X d_m4_853 rfl rfl ?_
      refine W.bipush (pc' := 856) X (8 : Int32) d_m4_854 (by decide) rfl ?_
      refine W.iushr (pc' := 857) (w := (XT.ushr b (8 : Int32))) X d_m4_856 rfl rfl ?_
      refine W.callS (pc' := 860) (W := 2) (argsL := [(.int (XT.ushr b (8 : Int32)))]) (st := [(.int (31 : Int32)), (.ref a388)]) (k' := 1) (n' := 32) X (c_hex (n := (XT.ushr b (8 : Int32))) G X.en) (w15 G) (w16 G) (w17 G) (w6 G) (by decide) (by decide) (by decide) rfl (lenOf pd16 rfl) rfl rfl (Nat.le_of_eq rfl) d_m4_857 rfl (by decide) (by decide) (by decide) (by decide) (kp fun T X => ?_)
      refine W.castore (pc' := 861) (i := 31) X A495 (by decide) rfl (ltb rfl) (hex_nar (hexd_hex _)) g391 nb392 d_m4_860 rfl fun T h496 X K497 A498 => ?_
      have A498 : Ar Z h496 a388 .char [(.int (hexd b)), (.int (48 : Int32)), (.int (48 : Int32)), (.int (48 : Int32)), (.int (48 : Int32)), (.int (48 : Int32)), (.int (48 : Int32)), (.int (48 : Int32)), (.int (48 : Int32)), (.int (48 : Int32)), (.int (48 : Int32)), (.int (48 : Int32)), (.int (48 : Int32)), (.int (48 : Int32)), (.int (48 : Int32)), (.int (48 : Int32)), (.int (hexd (XT.ushr b (4 : Int32)))), (.int (48 : Int32)), (.int (48 : Int32)), (.int (48 : Int32)), (.int (48 : Int32)), (.int (48 : Int32)), (.int (48 : Int32)), (.int (48 : Int32)), (.int (48 : Int32)), (.int (48 : Int32)), (.int (48 : Int32)), (.int (48 : Int32)), (.int (48 : Int32)), (.int (48 : Int32)), (.int (48 : Int32)), (.int (hexd (XT.ushr b (8 : Int32))))] := A498
      refine W.new (pc' := 864) (k' := 2) (n' := 36) X (w18 G) (w19 G) (w20 G) d_m4_861 rfl (by decide) (by decide) (by decide) (by decide) fun T h499 a500 X K501 g502 g503 nb504 E505 D506 => ?_
      have F507 : Fld Z h499 a500 "java/lang/String" "coder" "B" (.int (0 : Int32)) := D506 (Or.inr (w44 G)) (ty := .byte) (by decide)
      have F508 : Fld Z h499 a500 "java/lang/String" "value" "[B" .null := D506 (Or.inr (w46 G)) (ty := (.array .byte)) (by decide)
      refine W.dup (pc' := 865) X d_m4_864 rfl rfl ?_
      refine W.aloadN (pc' := 866) X d_m4_865 rfl rfl rfl ?_
      have F509 := (A498.keep K501 nin0)
      have en510 := X.en
      refine W.callN (pc' := 869) (W := 1) (argsL := [(.ref a388)]) (st := [(.ref a500)]) (k' := 3) (n' := 100) (a := a500) X (c_init1 (x := a500) (a := a388) (cs := [(hexd b), (48 : Int32), (48 : Int32), (48 : Int32), (48 : Int32), (48 : Int32), (48 : Int32), (48 : Int32), (48 : Int32), (48 : Int32), (48 : Int32), (48 : Int32), (48 : Int32), (48 : Int32), (48 : Int32), (48 : Int32), (hexd (XT.ushr b (4 : Int32))), (48 : Int32), (48 : Int32), (48 : Int32), (48 : Int32), (48 : Int32), (48 : Int32), (48 : Int32), (48 : Int32), (48 : Int32), (48 : Int32), (48 : Int32), (48 : Int32), (48 : Int32), (48 : Int32), (hexd (XT.ushr b (8 : Int32)))]) (v0 := .null) (c0 := (.int (0 : Int32))) G X.en E505 F508 F507 F509 (latS (hex_rng (hexd_hex _)) (latS l48 (latS l48 (latS l48 (latS l48 (latS l48 (latS l48 (latS l48 (latS l48 (latS l48 (latS l48 (latS l48 (latS l48 (latS l48 (latS l48 (latS l48 (latS (hex_rng (hexd_hex _)) (latS l48 (latS l48 (latS l48 (latS l48 (latS l48 (latS l48 (latS l48 (latS l48 (latS l48 (latS l48 (latS l48 (latS l48 (latS l48 (latS l48 (latS (hex_rng (hexd_hex _)) lat0)))))))))))))))))))))))))))))))) (ltb rfl) (leb rfl) g503 nb504) rfl (w21 G) (w22 G) (w23 G) (w20 G) (by decide) (by decide) (by decide) rfl (lenOf pd26 rfl) rfl rfl (Nat.le_of_eq rfl) d_m4_866 rfl (by decide) (by decide) (by decide) (by decide) (kv fun T h511 X z512 q513 => ?_)
      obtain ⟨a514, K515, g516, F517⟩ := q513
      have g518 : Z.heap.size ≤ a514 := Nat.le_trans (Nat.le_trans hz0 (Nat.le_trans (Nat.le_trans (Nat.le_trans (Nat.le_trans (Nat.le_trans (Nat.le_trans (Nat.le_trans (Nat.le_trans (Nat.le_trans (Nat.le_trans (Nat.le_trans (Nat.le_trans (Nat.le_trans (Nat.le_trans (Nat.le_trans (Nat.le_trans (Nat.le_trans (Nat.le_trans (Nat.le_trans (Nat.le_trans (Nat.le_trans (Nat.le_trans (Nat.le_trans (Nat.le_trans (Nat.le_trans (Nat.le_trans (Nat.le_trans (Nat.le_trans (Nat.le_trans (Nat.le_trans (Nat.le_trans (Nat.le_trans (Nat.le_trans (Nat.le_trans (Nat.le_trans (Nat.le_trans K389.1 K395.1) K398.1) K401.1) K404.1) K407.1) K410.1) K413.1) K416.1) K419.1) K422.1) K425.1) K428.1) K431.1) K434.1) K437.1) K440.1) K443.1) K446.1) K449.1) K452.1) K455.1) K458.1) K461.1) K464.1) K467.1) K470.1) K473.1) K476.1) K479.1) K482.1) K485.1) K488.1) K491.1) K494.1) K497.1) K501.1)) g516
      have nb519 : ¬ B a514 := fun q => absurd (en510.2 _ q) (Nat.not_lt.mpr g516)
      exact W.areturn X d_m4_869 rfl rfl rfl rfl (by decide) (by decide) ⟨_, rfl, rfl, ⟨a500, a514, rfl, (Keep.trans (Keep.trans (Keep.trans (Keep.trans (Keep.trans (Keep.trans (Keep.trans (Keep.trans (Keep.trans (Keep.trans (Keep.trans (Keep.trans (Keep.trans (Keep.trans (Keep.trans (Keep.trans (Keep.trans (Keep.trans (Keep.trans (Keep.trans (Keep.trans (Keep.trans (Keep.trans (Keep.trans (Keep.trans (Keep.trans (Keep.trans (Keep.trans (Keep.trans (Keep.trans (Keep.trans (Keep.trans (Keep.trans (Keep.trans (Keep.trans (Keep.trans (Keep.trans (Keep.trans (Keep.refl h []) K389 all0) K395 (allS (Or.inr (Nat.le_trans (Nat.le_refl _) g390)) all0)) K398 (allS (Or.inr (Nat.le_trans (Nat.le_refl _) g390)) all0)) K401 (allS (Or.inr (Nat.le_trans (Nat.le_refl _) g390)) all0)) K404 (allS (Or.inr (Nat.le_trans (Nat.le_refl _) g390)) all0)) K407 (allS (Or.inr (Nat.le_trans (Nat.le_refl _) g390)) all0)) K410 (allS (Or.inr (Nat.le_trans (Nat.le_refl _) g390)) all0)) K413 (allS (Or.inr (Nat.le_trans (Nat.le_refl _) g390)) all0)) K416 (allS (Or.inr (Nat.le_trans (Nat.le_refl _) g390)) all0)) K419 (allS (Or.inr (Nat.le_trans (Nat.le_refl _) g390)) all0)) K422 (allS (Or.inr (Nat.le_trans (Nat.le_refl _) g390)) all0)) K425 (allS (Or.inr (Nat.le_trans (Nat.le_refl _) g390)) all0)) K428 (allS (Or.inr (Nat.le_trans (Nat.le_refl _) g390)) all0)) K431 (allS (Or.inr (Nat.le_trans (Nat.le_refl _) g390)) all0)) K434 (allS (Or.inr (Nat.le_trans (Nat.le_refl _) g390)) all0)) K437 (allS (Or.inr (Nat.le_trans (Nat.le_refl _) g390)) all0)) K440 (allS (Or.inr (Nat.le_trans (Nat.le_refl _) g390)) all0)) K443 (allS (Or.inr (Nat.le_trans (Nat.le_refl _) g390)) all0)) K446 (allS (Or.inr (Nat.le_trans (Nat.le_refl _) g390)) all0)) K449 (allS (Or.inr (Nat.le_trans (Nat.le_refl _) g390)) all0)) K452 (allS (Or.inr (Nat.le_trans (Nat.le_refl _) g390)) all0)) K455 (allS (Or.inr (Nat.le_trans (Nat.le_refl _) g390)) all0)) K458 (allS (Or.inr (Nat.le_trans (Nat.le_refl _) g390)) all0)) K461 (allS (Or.inr (Nat.le_trans (Nat.le_refl _) g390)) all0)) K464 (allS (Or.inr (Nat.le_trans (Nat.le_refl _) g390)) all0)) K467 (allS (Or.inr (Nat.le_trans (Nat.le_refl _) g390)) all0)) K470 (allS (Or.inr (Nat.le_trans (Nat.le_refl _) g390)) all0)) K473 (allS (Or.inr (Nat.le_trans (Nat.le_refl _) g390)) all0)) K476 (allS (Or.inr (Nat.le_trans (Nat.le_refl _) g390)) all0)) K479 (allS (Or.inr (Nat.le_trans (Nat.le_refl _) g390)) all0)) K482 (allS (Or.inr (Nat.le_trans (Nat.le_refl _) g390)) all0)) K485 (allS (Or.inr (Nat.le_trans (Nat.le_refl _) g390)) all0)) K488 (allS (Or.inr (Nat.le_trans (Nat.le_refl _) g390)) all0)) K491 (allS (Or.inr (Nat.le_trans (Nat.le_refl _) g390)) all0)) K494 (allS (Or.inr (Nat.le_trans (Nat.le_refl _) g390)) all0)) K497 (allS (Or.inr (Nat.le_trans (Nat.le_refl _) g390)) all0)) K501 all0) K515 (allS (Or.inr (Nat.le_trans (Nat.le_trans (Nat.le_trans (Nat.le_trans (Nat.le_trans (Nat.le_trans (Nat.le_trans (Nat.le_trans (Nat.le_trans (Nat.le_trans (Nat.le_trans (Nat.le_trans (Nat.le_trans (Nat.le_trans (Nat.le_trans (Nat.le_trans (Nat.le_trans (Nat.le_trans (Nat.le_trans (Nat.le_trans (Nat.le_trans (Nat.le_trans (Nat.le_trans (Nat.le_trans (Nat.le_trans (Nat.le_trans (Nat.le_trans (Nat.le_trans (Nat.le_trans (Nat.le_trans (Nat.le_trans (Nat.le_trans (Nat.le_trans (Nat.le_trans (Nat.le_trans (Nat.le_trans K389.1 K395.1) K398.1) K401.1) K404.1) K407.1) K410.1) K413.1) K416.1) K419.1) K422.1) K425.1) K428.1) K431.1) K434.1) K437.1) K440.1) K443.1) K446.1) K449.1) K452.1) K455.1) K458.1) K461.1) K464.1) K467.1) K470.1) K473.1) K476.1) K479.1) K482.1) K485.1) K488.1) K491.1) K494.1) K497.1) g502)) all0)), (Nat.le_trans (Nat.le_trans (Nat.le_trans (Nat.le_trans (Nat.le_trans (Nat.le_trans (Nat.le_trans (Nat.le_trans (Nat.le_trans (Nat.le_trans (Nat.le_trans (Nat.le_trans (Nat.le_trans (Nat.le_trans (Nat.le_trans (Nat.le_trans (Nat.le_trans (Nat.le_trans (Nat.le_trans (Nat.le_trans (Nat.le_trans (Nat.le_trans (Nat.le_trans (Nat.le_trans (Nat.le_trans (Nat.le_trans (Nat.le_trans (Nat.le_trans (Nat.le_trans (Nat.le_trans (Nat.le_trans (Nat.le_trans (Nat.le_trans (Nat.le_trans (Nat.le_trans (Nat.le_trans K389.1 K395.1) K398.1) K401.1) K404.1) K407.1) K410.1) K413.1) K416.1) K419.1) K422.1) K425.1) K428.1) K431.1) K434.1) K437.1) K440.1) K443.1) K446.1) K449.1) K452.1) K455.1) K458.1) K461.1) K464.1) K467.1) K470.1) K473.1) K476.1) K479.1) K482.1) K485.1) K488.1) K491.1) K494.1) K497.1) g502), (Nat.le_trans (Nat.le_trans (Nat.le_trans (Nat.le_trans (Nat.le_trans (Nat.le_trans (Nat.le_trans (Nat.le_trans (Nat.le_trans (Nat.le_trans (Nat.le_trans (Nat.le_trans (Nat.le_trans (Nat.le_trans (Nat.le_trans (Nat.le_trans (Nat.le_trans (Nat.le_trans (Nat.le_trans (Nat.le_trans (Nat.le_trans (Nat.le_trans (Nat.le_trans (Nat.le_trans (Nat.le_trans (Nat.le_trans (Nat.le_trans (Nat.le_trans (Nat.le_trans (Nat.le_trans (Nat.le_trans (Nat.le_trans (Nat.le_trans (Nat.le_trans (Nat.le_trans (Nat.le_trans (Nat.le_trans K389.1 K395.1) K398.1) K401.1) K404.1) K407.1) K410.1) K413.1) K416.1) K419.1) K422.1) K425.1) K428.1) K431.1) K434.1) K437.1) K440.1) K443.1) K446.1) K449.1) K452.1) K455.1) K458.1) K461.1) K464.1) K467.1) K470.1) K473.1) K476.1) K479.1) K482.1) K485.1) K488.1) K491.1) K494.1) K497.1) K501.1) g516), (strc F517 (by rw [sg, if_neg hi0, if_neg hi1]; rfl))⟩⟩
def c_keq_rm : Room := { frames := 2, cells := 0, slots := 0, locals := 28 }
set_option maxRecDepth 65536 in
set_option maxHeartbeats 40000000 in
theorem c_keq {l : Launch} {Z : State} {a0 : Array Value} {zC : Int32} {fS : Value} {cA : Addr} {e0 : Addr} {e1 : Addr} {e2 : Addr} {h : Heap} {B : Addr → Prop} {x k q q' a b a' b' : Addr} {cs ds : List Int32} {vo vo' ov ov' : Int32} (G : Gl Z a0 zC fS cA e0 e1 e2) (hE : En Z B h) (P0 : Exa Z h k "com/example/campo_grande/campogrande/ContentKey") (P1 : Fld Z h x "com/example/campo_grande/campogrande/ContentKey" "volume" "I" (.int vo)) (P2 : Fld Z h x "com/example/campo_grande/campogrande/ContentKey" "algorithm" "Lcom/example/campo_grande/campogrande/SignatureAlgorithm;" (.ref q)) (P3 : Fld Z h x "com/example/campo_grande/campogrande/ContentKey" "signature" "Ljava/lang/String;" (.ref a)) (P4 : Fld Z h x "com/example/campo_grande/campogrande/ContentKey" "overflow" "I" (.int ov)) (P5 : Fld Z h k "com/example/campo_grande/campogrande/ContentKey" "volume" "I" (.int vo')) (P6 : Fld Z h k "com/example/campo_grande/campogrande/ContentKey" "algorithm" "Lcom/example/campo_grande/campogrande/SignatureAlgorithm;" (.ref q')) (P7 : Fld Z h k "com/example/campo_grande/campogrande/ContentKey" "signature" "Ljava/lang/String;" (.ref a')) (P8 : Fld Z h k "com/example/campo_grande/campogrande/ContentKey" "overflow" "I" (.int ov')) (P9 : Str Z h a b cs) (P10 : Str Z h a' b' ds) (P11 : a ≠ a') : Con l Z [] [] (⟨"com/example/campo_grande/campogrande/ContentKey", "equals", "(Ljava/lang/Object;)Z"⟩ : MethodName) prog_13_method_9_code 3 (some .boolean) c_keq_rm B h #[(.ref x), (.ref k)] (fun vR hR BR => vR = some (.int (if vo = vo' ∧ q = q' ∧ cs = ds ∧ ov = ov' then (1 : Int32) else 0)) ∧ hR = h ∧ BR = B) := by
  have hz0 := hE.1.1
  refine Con.intro (ls := #[.val (.ref x), .val (.ref k), .unset]) (plainFor_of_name pn20) G.2.1 hE (fun m => by first | rfl | (simp [entryFrame, mkF, argsToLocals, Value.category]; done) | rfl) ?_
  intro p e s m below meth c T hs X
  refine W.aloadN (pc' := 1) X d_prog_13_m9_0 rfl rfl rfl ?_
  refine W.instY (pc' := 4) X (w111 G) (Ins.self P0) d_prog_13_m9_1 rfl fun T X => ?_
  refine W.ifF (pc' := 7) X d_prog_13_m9_4 (by decide) rfl ?_
  refine W.aloadN (pc' := 8) X d_prog_13_m9_7 rfl rfl rfl ?_
  refine W.cast (pc' := 11) X (w111 G) (Ins.self P0) d_prog_13_m9_8 rfl fun T X => ?_
  refine W.astoreN (pc' := 12) (ls' := #[.val (.ref x), .val (.ref k), .val (.ref k)]) X d_prog_13_m9_11 rfl rfl rfl ?_
  refine W.aloadN (pc' := 13) X d_prog_13_m9_12 rfl rfl rfl ?_
  refine W.getF (pc' := 16) X (w98 G) Via.refl P1 d_prog_13_m9_13 rfl fun T X => ?_
  refine W.aloadN (pc' := 17) X d_prog_13_m9_16 rfl rfl rfl ?_
  refine W.getF (pc' := 20) X (w98 G) Via.refl P5 d_prog_13_m9_17 rfl fun T X => ?_
  by_cases hv : vo = vo'
  · skip
    refine W.icF (pc' := 23) X d_prog_13_m9_20 (XT.ii_ne_f hv) rfl ?_
    refine W.aloadN (pc' := 24) X d_prog_13_m9_23 rfl rfl rfl ?_
    refine W.getF (pc' := 27) X (w100 G) Via.refl P2 d_prog_13_m9_24 rfl fun T X => ?_
    refine W.aloadN (pc' := 28) X d_prog_13_m9_27 rfl rfl rfl ?_
    refine W.getF (pc' := 31) X (w100 G) Via.refl P6 d_prog_13_m9_28 rfl fun T X => ?_
    by_cases hq : (Value.ref q) = (Value.ref q')
    · skip
      refine W.acF (pc' := 34) X d_prog_13_m9_31 rfl rfl (XT.aa_ne_f hq) rfl ?_
      refine W.aloadN (pc' := 35) X d_prog_13_m9_34 rfl rfl rfl ?_
      refine W.getF (pc' := 38) X (w102 G) Via.refl P3 d_prog_13_m9_35 rfl fun T X => ?_
      refine W.aloadN (pc' := 39) X d_prog_13_m9_38 rfl rfl rfl ?_
      refine W.getF (pc' := 42) X (w102 G) Via.refl P7 d_prog_13_m9_39 rfl fun T X => ?_
      refine W.callV (pc' := 45) (W := 0) (argsL := [(.ref a')]) (st := []) (k' := 0) (n' := 0) (a := a) X (c_eq (a := a) (b := b) (a' := a') (b' := b') (cs := cs) (ds := ds) G X.en P9 P10 P11) (w113 G) (w114 G) (nfM (z' := (⟨"java/lang/String", "length", "()I"⟩ : MethodName)) rfl (w67 G)) (w116 G) (w115 G) P9.exa (w117 G) (w20 G) (by decide) (by decide) (by decide) rfl (lenOf pd27 rfl) rfl rfl (Nat.le_of_eq rfl) d_prog_13_m9_42 rfl (by decide) (by decide) (by decide) (by decide) (kp fun T X => ?_)
      by_cases he : (if cs = ds then (1 : Int32) else 0) = (0 : Int32)
      · skip
        refine W.ifT (pc' := 63) X d_prog_13_m9_45 (XT.i0_eq_t he) (by decide) (by decide) ?_
        refine W.iconst (pc' := 64) X (0 : Int32) d_prog_13_m9_63 (by decide) rfl ?_
        exact W.ireturn X d_prog_13_m9_64 rfl (by decide) (by decide) (by decide) (by decide) ⟨(by rw [if_neg (fun n => by rw [if_pos n.2.2.1] at he; exact absurd he (by decide))]), rfl, rfl⟩
      · skip
        refine W.ifF (pc' := 48) X d_prog_13_m9_45 (XT.i0_eq_f he) rfl ?_
        refine W.aloadN (pc' := 49) X d_prog_13_m9_48 rfl rfl rfl ?_
        refine W.getF (pc' := 52) X (w104 G) Via.refl P4 d_prog_13_m9_49 rfl fun T X => ?_
        refine W.aloadN (pc' := 53) X d_prog_13_m9_52 rfl rfl rfl ?_
        refine W.getF (pc' := 56) X (w104 G) Via.refl P8 d_prog_13_m9_53 rfl fun T X => ?_
        by_cases ho : ov = ov'
        · skip
          refine W.icF (pc' := 59) X d_prog_13_m9_56 (XT.ii_ne_f ho) rfl ?_
          refine W.iconst (pc' := 60) X (1 : Int32) d_prog_13_m9_59 (by decide) rfl ?_
          refine W.goto (pc' := 64) X d_prog_13_m9_60 (by decide) (by decide) ?_
          exact W.ireturn X d_prog_13_m9_64 rfl (by decide) (by decide) (by decide) (by decide) ⟨(by rw [if_pos ⟨hv, Value.ref.inj hq, Classical.byContradiction fun n => he (if_neg n), ho⟩]), rfl, rfl⟩
        · skip
          refine W.icT (pc' := 63) X d_prog_13_m9_56 (XT.ii_ne_t ho) (by decide) (by decide) ?_
          refine W.iconst (pc' := 64) X (0 : Int32) d_prog_13_m9_63 (by decide) rfl ?_
          exact W.ireturn X d_prog_13_m9_64 rfl (by decide) (by decide) (by decide) (by decide) ⟨(by rw [if_neg (fun n => ho n.2.2.2)]), rfl, rfl⟩
    · skip
      refine W.acT (pc' := 63) X d_prog_13_m9_31 rfl rfl (XT.aa_ne_t hq) (by decide) (by decide) ?_
      refine W.iconst (pc' := 64) X (0 : Int32) d_prog_13_m9_63 (by decide) rfl ?_
      exact W.ireturn X d_prog_13_m9_64 rfl (by decide) (by decide) (by decide) (by decide) ⟨(by rw [if_neg (fun n => hq (by rw [n.2.1]))]), rfl, rfl⟩
  · skip
    refine W.icT (pc' := 63) X d_prog_13_m9_20 (XT.ii_ne_t hv) (by decide) (by decide) ?_
    refine W.iconst (pc' := 64) X (0 : Int32) d_prog_13_m9_63 (by decide) rfl ?_
    exact W.ireturn X d_prog_13_m9_64 rfl (by decide) (by decide) (by decide) (by decide) ⟨(by rw [if_neg (fun n => hv n.1)]), rfl, rfl⟩
def c_keqS_rm : Room := { frames := 1, cells := 0, slots := 0, locals := 14 }
set_option maxRecDepth 65536 in
set_option maxHeartbeats 40000000 in
theorem c_keqS {l : Launch} {Z : State} {a0 : Array Value} {zC : Int32} {fS : Value} {cA : Addr} {e0 : Addr} {e1 : Addr} {e2 : Addr} {h : Heap} {B : Addr → Prop} {x q a b : Addr} {vo ov : Int32} {cs : List Int32} (G : Gl Z a0 zC fS cA e0 e1 e2) (hE : En Z B h) (P0 : Exa Z h x "com/example/campo_grande/campogrande/ContentKey") (P1 : Fld Z h x "com/example/campo_grande/campogrande/ContentKey" "volume" "I" (.int vo)) (P2 : Fld Z h x "com/example/campo_grande/campogrande/ContentKey" "algorithm" "Lcom/example/campo_grande/campogrande/SignatureAlgorithm;" (.ref q)) (P3 : Fld Z h x "com/example/campo_grande/campogrande/ContentKey" "signature" "Ljava/lang/String;" (.ref a)) (P4 : Fld Z h x "com/example/campo_grande/campogrande/ContentKey" "overflow" "I" (.int ov)) (P5 : Str Z h a b cs) : Con l Z [] [] (⟨"com/example/campo_grande/campogrande/ContentKey", "equals", "(Ljava/lang/Object;)Z"⟩ : MethodName) prog_13_method_9_code 3 (some .boolean) c_keqS_rm B h #[(.ref x), (.ref x)] (fun vR hR BR => vR = some (.int (1 : Int32)) ∧ hR = h ∧ BR = B) := by
  have hz0 := hE.1.1
  refine Con.intro (ls := #[.val (.ref x), .val (.ref x), .unset]) (plainFor_of_name pn20) G.2.1 hE (fun m => by first | rfl | (simp [entryFrame, mkF, argsToLocals, Value.category]; done) | rfl) ?_
  intro p e s m below meth c T hs X
  refine W.aloadN (pc' := 1) X d_prog_13_m9_0 rfl rfl rfl ?_
  refine W.instY (pc' := 4) X (w111 G) (Ins.self P0) d_prog_13_m9_1 rfl fun T X => ?_
  refine W.ifF (pc' := 7) X d_prog_13_m9_4 (by decide) rfl ?_
  refine W.aloadN (pc' := 8) X d_prog_13_m9_7 rfl rfl rfl ?_
  refine W.cast (pc' := 11) X (w111 G) (Ins.self P0) d_prog_13_m9_8 rfl fun T X => ?_
  refine W.astoreN (pc' := 12) (ls' := #[.val (.ref x), .val (.ref x), .val (.ref x)]) X d_prog_13_m9_11 rfl rfl rfl ?_
  refine W.aloadN (pc' := 13) X d_prog_13_m9_12 rfl rfl rfl ?_
  refine W.getF (pc' := 16) X (w98 G) Via.refl P1 d_prog_13_m9_13 rfl fun T X => ?_
  refine W.aloadN (pc' := 17) X d_prog_13_m9_16 rfl rfl rfl ?_
  refine W.getF (pc' := 20) X (w98 G) Via.refl P1 d_prog_13_m9_17 rfl fun T X => ?_
  refine W.icF (pc' := 23) X d_prog_13_m9_20 (XT.ii_ne_f rfl) rfl ?_
  refine W.aloadN (pc' := 24) X d_prog_13_m9_23 rfl rfl rfl ?_
  refine W.getF (pc' := 27) X (w100 G) Via.refl P2 d_prog_13_m9_24 rfl fun T X => ?_
  refine W.aloadN (pc' := 28) X d_prog_13_m9_27 rfl rfl rfl ?_
  refine W.getF (pc' := 31) X (w100 G) Via.refl P2 d_prog_13_m9_28 rfl fun T X => ?_
  refine W.acF (pc' := 34) X d_prog_13_m9_31 rfl rfl (XT.aa_ne_f rfl) rfl ?_
  refine W.aloadN (pc' := 35) X d_prog_13_m9_34 rfl rfl rfl ?_
  refine W.getF (pc' := 38) X (w102 G) Via.refl P3 d_prog_13_m9_35 rfl fun T X => ?_
  refine W.aloadN (pc' := 39) X d_prog_13_m9_38 rfl rfl rfl ?_
  refine W.getF (pc' := 42) X (w102 G) Via.refl P3 d_prog_13_m9_39 rfl fun T X => ?_
  refine W.callV (pc' := 45) (W := 0) (argsL := [(.ref a)]) (st := []) (k' := 0) (n' := 0) (a := a) X (c_eqsame (a := a) G X.en) (w113 G) (w114 G) (nfM (z' := (⟨"java/lang/String", "length", "()I"⟩ : MethodName)) rfl (w67 G)) (w116 G) (w115 G) P5.exa (w117 G) (w20 G) (by decide) (by decide) (by decide) rfl (lenOf pd27 rfl) rfl rfl (Nat.le_of_eq rfl) d_prog_13_m9_42 rfl (by decide) (by decide) (by decide) (by decide) (kp fun T X => ?_)
  refine W.ifF (pc' := 48) X d_prog_13_m9_45 (by decide) rfl ?_
  refine W.aloadN (pc' := 49) X d_prog_13_m9_48 rfl rfl rfl ?_
  refine W.getF (pc' := 52) X (w104 G) Via.refl P4 d_prog_13_m9_49 rfl fun T X => ?_
  refine W.aloadN (pc' := 53) X d_prog_13_m9_52 rfl rfl rfl ?_
  refine W.getF (pc' := 56) X (w104 G) Via.refl P4 d_prog_13_m9_53 rfl fun T X => ?_
  refine W.icF (pc' := 59) X d_prog_13_m9_56 (XT.ii_ne_f rfl) rfl ?_
  refine W.iconst (pc' := 60) X (1 : Int32) d_prog_13_m9_59 (by decide) rfl ?_
  refine W.goto (pc' := 64) X d_prog_13_m9_60 (by decide) (by decide) ?_
  exact W.ireturn X d_prog_13_m9_64 rfl (by decide) (by decide) (by decide) (by decide) ⟨rfl, rfl, rfl⟩
def c_keqN_rm : Room := { frames := 0, cells := 0, slots := 0, locals := 0 }
set_option maxRecDepth 65536 in
set_option maxHeartbeats 40000000 in
theorem c_keqN {l : Launch} {Z : State} {a0 : Array Value} {zC : Int32} {fS : Value} {cA : Addr} {e0 : Addr} {e1 : Addr} {e2 : Addr} {h : Heap} {B : Addr → Prop} {x : Addr} (G : Gl Z a0 zC fS cA e0 e1 e2) (hE : En Z B h)  : Con l Z [] [] (⟨"com/example/campo_grande/campogrande/ContentKey", "equals", "(Ljava/lang/Object;)Z"⟩ : MethodName) prog_13_method_9_code 3 (some .boolean) c_keqN_rm B h #[(.ref x), .null] (fun vR hR BR => vR = some (.int (0 : Int32)) ∧ hR = h ∧ BR = B) := by
  have hz0 := hE.1.1
  refine Con.intro (ls := #[.val (.ref x), .val .null, .unset]) (plainFor_of_name pn20) G.2.1 hE (fun m => by first | rfl | (simp [entryFrame, mkF, argsToLocals, Value.category]; done) | rfl) ?_
  intro p e s m below meth c T hs X
  refine W.aloadN (pc' := 1) X d_prog_13_m9_0 rfl rfl rfl ?_
  refine W.instNull (pc' := 4) X d_prog_13_m9_1 rfl ?_
  refine W.ifT (pc' := 63) X d_prog_13_m9_4 (by decide) (by decide) (by decide) ?_
  refine W.iconst (pc' := 64) X (0 : Int32) d_prog_13_m9_63 (by decide) rfl ?_
  exact W.ireturn X d_prog_13_m9_64 rfl (by decide) (by decide) (by decide) (by decide) ⟨rfl, rfl, rfl⟩
def c_keqI_rm : Room := { frames := 0, cells := 0, slots := 0, locals := 0 }
set_option maxRecDepth 65536 in
set_option maxHeartbeats 40000000 in
theorem c_keqI {l : Launch} {Z : State} {a0 : Array Value} {zC : Int32} {fS : Value} {cA : Addr} {e0 : Addr} {e1 : Addr} {e2 : Addr} {h : Heap} {B : Addr → Prop} {x k : Addr} (G : Gl Z a0 zC fS cA e0 e1 e2) (hE : En Z B h) (P0 : Exa Z h k "java/lang/Integer") : Con l Z [] [] (⟨"com/example/campo_grande/campogrande/ContentKey", "equals", "(Ljava/lang/Object;)Z"⟩ : MethodName) prog_13_method_9_code 3 (some .boolean) c_keqI_rm B h #[(.ref x), (.ref k)] (fun vR hR BR => vR = some (.int (0 : Int32)) ∧ hR = h ∧ BR = B) := by
  have hz0 := hE.1.1
  refine Con.intro (ls := #[.val (.ref x), .val (.ref k), .unset]) (plainFor_of_name pn20) G.2.1 hE (fun m => by first | rfl | (simp [entryFrame, mkF, argsToLocals, Value.category]; done) | rfl) ?_
  intro p e s m below meth c T hs X
  refine W.aloadN (pc' := 1) X d_prog_13_m9_0 rfl rfl rfl ?_
  refine W.instN (pc' := 4) X (w111 G) P0 (nsNo (w145 G) (w2 G) (NS.step (w146 G) (nsRoot (w147 G) (w2 G) (by decide)) (by decide)) (by decide)) d_prog_13_m9_1 rfl fun T X => ?_
  refine W.ifT (pc' := 63) X d_prog_13_m9_4 (by decide) (by decide) (by decide) ?_
  refine W.iconst (pc' := 64) X (0 : Int32) d_prog_13_m9_63 (by decide) rfl ?_
  exact W.ireturn X d_prog_13_m9_64 rfl (by decide) (by decide) (by decide) (by decide) ⟨rfl, rfl, rfl⟩
set_option maxRecDepth 65536 in
set_option maxHeartbeats 40000000 in
theorem c_law {l : Launch} {Z : State} {a0 : Array Value} {zC : Int32} {fS : Value} {cA : Addr} {e0 : Addr} {e1 : Addr} {e2 : Addr} {h : Heap} {B : Addr → Prop} {p0 p1 p2 p3 p4 p5 : Int32} (G : Gl Z a0 zC fS cA e0 e1 e2) (hE : En Z B h)  : Con l Z [] tables_1 x code maxLocals ret room_1 B h #[(.int p0), (.int p1), (.int p2), (.int p3), (.int p4), (.int p5)] (fun vR hR BR => vR = some (.int (1 : Int32))) := by
  have hz0 := hE.1.1
  refine Con.intro (ls := #[.val (.int p0), .val (.int p1), .val (.int p2), .val (.int p3), .val (.int p4), .val (.int p5), .unset, .unset, .unset, .unset, .unset, .unset, .unset, .unset, .unset, .unset, .unset, .unset, .unset, .unset]) (plainFor_of_name pn25) G.2.1 hE (fun m => by first | (simp [entryFrame, mkF, argsToLocals, Value.category, maxLocals]; done) | rfl) ?_
  intro p e s m below meth c T hs X
  have s108 : ∀ (va vb oa ob sa sb ia ib mo : Int32), ¬ va < 0 → ¬ vb < 0 → ¬ oa < 0 → ¬ ob < 0 → S12 sa → S12 sb → i3 ia → i3 ib → Go l Z [] room_1 B (fun vR hR BR => vR = some (.int (1 : Int32))) p e s m below T 108 #[.val (.int p0), .val (.int p1), .val (.int p2), .val (.int p3), .val (.int p4), .val (.int p5), .val (.int va), .val (.int vb), .val (.int oa), .val (.int ob), .val (.int sa), .val (.int sb), .val (.int ia), .val (.int ib), .val (.int mo), .unset, .unset, .unset, .unset, .unset] [] := by
    intro va vb oa ob sa sb ia ib mo hva hvb hoa hob hsa hsb hia hib
    have Eia := Exa.ext X.old (eOf_exa ia G.2.2.2.2.2.2.2.2.2.2.2.1 G.2.2.2.2.2.2.2.2.2.2.2.2.2.1 G.2.2.2.2.2.2.2.2.2.2.2.2.2.2.2.1)
    have Dia := Fld.ext X.old (eOf_fld ia G.2.2.2.2.2.2.2.2.2.2.2.2.1 G.2.2.2.2.2.2.2.2.2.2.2.2.2.2.1 G.2.2.2.2.2.2.2.2.2.2.2.2.2.2.2.2.1)
    have Eib := Exa.ext X.old (eOf_exa ib G.2.2.2.2.2.2.2.2.2.2.2.1 G.2.2.2.2.2.2.2.2.2.2.2.2.2.1 G.2.2.2.2.2.2.2.2.2.2.2.2.2.2.2.1)
    have Dib := Fld.ext X.old (eOf_fld ib G.2.2.2.2.2.2.2.2.2.2.2.2.1 G.2.2.2.2.2.2.2.2.2.2.2.2.2.2.1 G.2.2.2.2.2.2.2.2.2.2.2.2.2.2.2.2.1)
    refine W.new (pc' := 111) (k' := 1) (n' := 4) X (w1 G) (w2 G) (w3 G) at_108 rfl (by decide) (by decide) (by decide) (by decide) fun T h1 a2 X K3 g4 g5 nb6 E7 D8 => ?_
    have F9 : Fld Z h1 a2 "com/example/campo_grande/campogrande/ContentKey" "volume" "I" (.int (0 : Int32)) := D8 (Or.inr (w99 G)) (ty := .int) (by decide)
    have F10 : Fld Z h1 a2 "com/example/campo_grande/campogrande/ContentKey" "algorithm" "Lcom/example/campo_grande/campogrande/SignatureAlgorithm;" .null := D8 (Or.inr (w101 G)) (ty := (.object "com/example/campo_grande/campogrande/SignatureAlgorithm")) (by decide)
    have F11 : Fld Z h1 a2 "com/example/campo_grande/campogrande/ContentKey" "signature" "Ljava/lang/String;" .null := D8 (Or.inr (w103 G)) (ty := (.object "java/lang/String")) (by decide)
    have F12 : Fld Z h1 a2 "com/example/campo_grande/campogrande/ContentKey" "overflow" "I" (.int (0 : Int32)) := D8 (Or.inr (w105 G)) (ty := .int) (by decide)
    refine W.dup (pc' := 112) X at_111 rfl rfl ?_
    refine W.iload (pc' := 114) X at_112 rfl rfl ?_
    refine W.iload (pc' := 116) X at_114 rfl rfl ?_
    refine W.callS (pc' := 119) (W := 3) (argsL := [(.int ia)]) (st := [(.int va), (.ref a2), (.ref a2)]) (k' := 1) (n' := 4) X (c_alg (i := ia) G X.en) (w4 G) (w5 G) (w7 G) (w6 G) (by decide) (by decide) (by decide) rfl (lenOf pd28 rfl) rfl rfl (Nat.le_of_eq rfl) at_116 rfl (by decide) (by decide) (by decide) (by decide) (kp fun T X => ?_)
    refine W.iload (pc' := 121) X at_119 rfl rfl ?_
    refine W.iload (pc' := 123) X at_121 rfl rfl ?_
    have en13 := X.en
    refine W.callS (pc' := 126) (W := 4) (argsL := [(.int ia), (.int sa)]) (st := [(.ref (eOf e0 e1 e2 ia)), (.int va), (.ref a2), (.ref a2)]) (k' := 4) (n' := 136) X (c_sig (i := ia) (b := sa) G X.en) (w11 G) (w12 G) (w13 G) (w6 G) (by decide) (by decide) (by decide) rfl (lenOf pd29 rfl) rfl rfl (Nat.le_of_eq rfl) at_123 rfl (by decide) (by decide) (by decide) (by decide) (kr fun T h14 xr X z15 q16 => ?_)
    obtain ⟨a17, a18, rfl, K19, g20, g21, F22⟩ := q16
    have g23 : Z.heap.size ≤ a17 := Nat.le_trans (Nat.le_trans hz0 K3.1) g20
    have nb24 : ¬ B a17 := fun q => absurd (en13.2 _ q) (Nat.not_lt.mpr g20)
    have g25 : Z.heap.size ≤ a18 := Nat.le_trans (Nat.le_trans hz0 K3.1) g21
    have nb26 : ¬ B a18 := fun q => absurd (en13.2 _ q) (Nat.not_lt.mpr g21)
    refine W.iload (pc' := 128) X at_126 rfl rfl ?_
    have F27 := (E7.keep K19)
    have F28 := (F9.keep K19 nin0)
    have F29 := (F10.keep K19 nin0)
    have F30 := (F11.keep K19 nin0)
    have F31 := (F12.keep K19 nin0)
    have F32 := ((Eia.keep K3).keep K19)
    have F33 := ((Dia.keep K3 nin0).keep K19 nin0)
    refine W.callN (pc' := 131) (W := 1) (argsL := [(.int va), (.ref (eOf e0 e1 e2 ia)), (.ref a17), (.int oa)]) (st := [(.ref a2)]) (k' := 8) (n' := 216) (a := a2) X (c_key (x := a2) (q := (eOf e0 e1 e2 ia)) (a := a17) (b := a18) (cs := (sg ia sa)) (dl := (dlOf ia)) (vo := va) (ov := oa) (v0 := (.int (0 : Int32))) (v1 := .null) (v2 := .null) (v3 := (.int (0 : Int32))) G X.en F27 F28 F29 F30 F31 F32 F33 F22 (sg_len hia _) (sg_hex _ _) hva hoa g5 nb6 (Nat.ne_of_gt (Nat.lt_of_lt_of_le Eia.lt (Nat.le_trans (Nat.le_refl _) g4))) (Nat.ne_of_lt (Nat.lt_of_lt_of_le E7.lt (Nat.le_trans (Nat.le_refl _) g20))) (Nat.ne_of_lt (Nat.lt_of_lt_of_le E7.lt (Nat.le_trans (Nat.le_refl _) g21)))) rfl (w47 G) (w48 G) (w49 G) (w3 G) (by decide) (by decide) (by decide) rfl (lenOf pd30 rfl) rfl rfl (Nat.le_of_eq rfl) at_128 rfl (by decide) (by decide) (by decide) (by decide) (kvi fun T h34 B37 X z35 zb38 q36 => ?_)
    obtain ⟨K39, F40, F41, F42, F43⟩ := q36
    refine W.astore (pc' := 133) (ls' := #[.val (.int p0), .val (.int p1), .val (.int p2), .val (.int p3), .val (.int p4), .val (.int p5), .val (.int va), .val (.int vb), .val (.int oa), .val (.int ob), .val (.int sa), .val (.int sb), .val (.int ia), .val (.int ib), .val (.int mo), .val (.ref a2), .unset, .unset, .unset, .unset]) X at_131 rfl rfl rfl ?_
    refine W.new (pc' := 136) (k' := 9) (n' := 220) X (w1 G) (w2 G) (w3 G) at_133 rfl (by decide) (by decide) (by decide) (by decide) fun T h44 a45 X K46 g47 g48 nb49 E50 D51 => ?_
    have F52 : Fld Z h44 a45 "com/example/campo_grande/campogrande/ContentKey" "volume" "I" (.int (0 : Int32)) := D51 (Or.inr (w99 G)) (ty := .int) (by decide)
    have F53 : Fld Z h44 a45 "com/example/campo_grande/campogrande/ContentKey" "algorithm" "Lcom/example/campo_grande/campogrande/SignatureAlgorithm;" .null := D51 (Or.inr (w101 G)) (ty := (.object "com/example/campo_grande/campogrande/SignatureAlgorithm")) (by decide)
    have F54 : Fld Z h44 a45 "com/example/campo_grande/campogrande/ContentKey" "signature" "Ljava/lang/String;" .null := D51 (Or.inr (w103 G)) (ty := (.object "java/lang/String")) (by decide)
    have F55 : Fld Z h44 a45 "com/example/campo_grande/campogrande/ContentKey" "overflow" "I" (.int (0 : Int32)) := D51 (Or.inr (w105 G)) (ty := .int) (by decide)
    refine W.dup (pc' := 137) X at_136 rfl rfl ?_
    refine W.iload (pc' := 139) X at_137 rfl rfl ?_
    refine W.iload (pc' := 141) X at_139 rfl rfl ?_
    refine W.callS (pc' := 144) (W := 3) (argsL := [(.int ib)]) (st := [(.int vb), (.ref a45), (.ref a45)]) (k' := 9) (n' := 220) X (c_alg (i := ib) G X.en) (w4 G) (w5 G) (w7 G) (w6 G) (by decide) (by decide) (by decide) rfl (lenOf pd28 rfl) rfl rfl (Nat.le_of_eq rfl) at_141 rfl (by decide) (by decide) (by decide) (by decide) (kp fun T X => ?_)
    refine W.iload (pc' := 146) X at_144 rfl rfl ?_
    refine W.iload (pc' := 148) X at_146 rfl rfl ?_
    have en56 := X.en
    refine W.callS (pc' := 151) (W := 4) (argsL := [(.int ib), (.int sb)]) (st := [(.ref (eOf e0 e1 e2 ib)), (.int vb), (.ref a45), (.ref a45)]) (k' := 12) (n' := 352) X (c_sig (i := ib) (b := sb) G X.en) (w11 G) (w12 G) (w13 G) (w6 G) (by decide) (by decide) (by decide) rfl (lenOf pd29 rfl) rfl rfl (Nat.le_of_eq rfl) at_148 rfl (by decide) (by decide) (by decide) (by decide) (kr fun T h57 xr X z58 q59 => ?_)
    obtain ⟨a60, a61, rfl, K62, g63, g64, F65⟩ := q59
    have g66 : Z.heap.size ≤ a60 := Nat.le_trans (Nat.le_trans hz0 (Nat.le_trans (Nat.le_trans (Nat.le_trans K3.1 K19.1) K39.1) K46.1)) g63
    have nb67 : ¬ B37 a60 := fun q => absurd (en56.2 _ q) (Nat.not_lt.mpr g63)
    have g68 : Z.heap.size ≤ a61 := Nat.le_trans (Nat.le_trans hz0 (Nat.le_trans (Nat.le_trans (Nat.le_trans K3.1 K19.1) K39.1) K46.1)) g64
    have nb69 : ¬ B37 a61 := fun q => absurd (en56.2 _ q) (Nat.not_lt.mpr g64)
    refine W.iload (pc' := 153) X at_151 rfl rfl ?_
    have F70 := (E50.keep K62)
    have F71 := (F52.keep K62 nin0)
    have F72 := (F53.keep K62 nin0)
    have F73 := (F54.keep K62 nin0)
    have F74 := (F55.keep K62 nin0)
    have F75 := (((((Eib.keep K3).keep K19).keep K39).keep K46).keep K62)
    have F76 := (((((Dib.keep K3 nin0).keep K19 nin0).keep K39 (ninS (Nat.ne_of_lt (Nat.lt_of_lt_of_le Eib.lt (Nat.le_trans (Nat.le_refl _) g4))) nin0)).keep K46 nin0).keep K62 nin0)
    refine W.callN (pc' := 156) (W := 1) (argsL := [(.int vb), (.ref (eOf e0 e1 e2 ib)), (.ref a60), (.int ob)]) (st := [(.ref a45)]) (k' := 16) (n' := 432) (a := a45) X (c_key (x := a45) (q := (eOf e0 e1 e2 ib)) (a := a60) (b := a61) (cs := (sg ib sb)) (dl := (dlOf ib)) (vo := vb) (ov := ob) (v0 := (.int (0 : Int32))) (v1 := .null) (v2 := .null) (v3 := (.int (0 : Int32))) G X.en F70 F71 F72 F73 F74 F75 F76 F65 (sg_len hib _) (sg_hex _ _) hvb hob g48 nb49 (Nat.ne_of_gt (Nat.lt_of_lt_of_le Eib.lt (Nat.le_trans (Nat.le_trans (Nat.le_trans K3.1 K19.1) K39.1) g47))) (Nat.ne_of_lt (Nat.lt_of_lt_of_le E50.lt (Nat.le_trans (Nat.le_refl _) g63))) (Nat.ne_of_lt (Nat.lt_of_lt_of_le E50.lt (Nat.le_trans (Nat.le_refl _) g64)))) rfl (w47 G) (w48 G) (w49 G) (w3 G) (by decide) (by decide) (by decide) rfl (lenOf pd30 rfl) rfl rfl (Nat.le_of_eq rfl) at_153 rfl (by decide) (by decide) (by decide) (by decide) (kvi fun T h77 B80 X z78 zb81 q79 => ?_)
    obtain ⟨K82, F83, F84, F85, F86⟩ := q79
    refine W.astore (pc' := 158) (ls' := #[.val (.int p0), .val (.int p1), .val (.int p2), .val (.int p3), .val (.int p4), .val (.int p5), .val (.int va), .val (.int vb), .val (.int oa), .val (.int ob), .val (.int sa), .val (.int sb), .val (.int ia), .val (.int ib), .val (.int mo), .val (.ref a2), .val (.ref a45), .unset, .unset, .unset]) X at_156 rfl rfl rfl ?_
    refine W.iload (pc' := 160) X at_158 rfl rfl ?_
    refine W.iconst (pc' := 161) X (2 : Int32) at_160 (by decide) rfl ?_
    by_cases hm : mo < (2 : Int32)
    · skip
      refine W.icF (pc' := 164) X at_161 (XT.ii_ge_f hm) rfl ?_
      refine W.aload (pc' := 166) X at_164 rfl rfl rfl ?_
      refine W.astore (pc' := 168) (ls' := #[.val (.int p0), .val (.int p1), .val (.int p2), .val (.int p3), .val (.int p4), .val (.int p5), .val (.int va), .val (.int vb), .val (.int oa), .val (.int ob), .val (.int sa), .val (.int sb), .val (.int ia), .val (.int ib), .val (.int mo), .val (.ref a2), .val (.ref a45), .val (.ref a45), .unset, .unset]) X at_166 rfl rfl rfl ?_
      refine W.goto (pc' := 190) X at_168 (by decide) (by decide) ?_
      have s231 : ∀ ex : Int32, ex = (if va = vb ∧ eOf e0 e1 e2 ia = eOf e0 e1 e2 ib ∧ sg ia sa = sg ib sb ∧ oa = ob then (1 : Int32) else 0) → Go l Z [] room_1 B (fun vR hR BR => vR = some (.int (1 : Int32))) p e s m below T 231 #[.val (.int p0), .val (.int p1), .val (.int p2), .val (.int p3), .val (.int p4), .val (.int p5), .val (.int va), .val (.int vb), .val (.int oa), .val (.int ob), .val (.int sa), .val (.int sb), .val (.int ia), .val (.int ib), .val (.int mo), .val (.ref a2), .val (.ref a45), .val (.ref a45), .val (.int ex), .unset] [] := by
        intro ex hex
        refine W.aload (pc' := 233) X at_231 rfl rfl rfl ?_
        refine W.aload (pc' := 235) X at_233 rfl rfl rfl ?_
        have F87 := ((((F27.keep K39).keep K46).keep K62).keep K82)
        have F88 := (F70.keep K82)
        have F89 := (((F40.keep K46 nin0).keep K62 nin0).keep K82 (ninS (Nat.ne_of_lt (Nat.lt_of_lt_of_le E7.lt (Nat.le_trans (Nat.le_trans K19.1 K39.1) g47))) nin0))
        have F90 := (((F41.keep K46 nin0).keep K62 nin0).keep K82 (ninS (Nat.ne_of_lt (Nat.lt_of_lt_of_le E7.lt (Nat.le_trans (Nat.le_trans K19.1 K39.1) g47))) nin0))
        have F91 := (((F42.keep K46 nin0).keep K62 nin0).keep K82 (ninS (Nat.ne_of_lt (Nat.lt_of_lt_of_le E7.lt (Nat.le_trans (Nat.le_trans K19.1 K39.1) g47))) nin0))
        have F92 := (((F43.keep K46 nin0).keep K62 nin0).keep K82 (ninS (Nat.ne_of_lt (Nat.lt_of_lt_of_le E7.lt (Nat.le_trans (Nat.le_trans K19.1 K39.1) g47))) nin0))
        have F93 := ((((F22.keep K39 (ninS (Nat.ne_of_gt (Nat.lt_of_lt_of_le E7.lt (Nat.le_trans (Nat.le_refl _) g20))) nin0) (ninS (Nat.ne_of_gt (Nat.lt_of_lt_of_le E7.lt (Nat.le_trans (Nat.le_refl _) g21))) nin0)).keep K46 nin0 nin0).keep K62 nin0 nin0).keep K82 (ninS (Nat.ne_of_lt (Nat.lt_of_lt_of_le F22.lt (Nat.le_trans K39.1 g47))) nin0) (ninS (Nat.ne_of_lt (Nat.lt_of_lt_of_le F22.ltb (Nat.le_trans K39.1 g47))) nin0))
        have F94 := (F65.keep K82 (ninS (Nat.ne_of_gt (Nat.lt_of_lt_of_le E50.lt (Nat.le_trans (Nat.le_refl _) g63))) nin0) (ninS (Nat.ne_of_gt (Nat.lt_of_lt_of_le E50.lt (Nat.le_trans (Nat.le_refl _) g64))) nin0))
        refine W.callV (pc' := 238) (W := 0) (argsL := [(.ref a45)]) (st := []) (k' := 16) (n' := 432) (a := a2) X (c_keq (x := a2) (k := a45) (q := (eOf e0 e1 e2 ia)) (q' := (eOf e0 e1 e2 ib)) (a := a17) (b := a18) (a' := a60) (b' := a61) (cs := (sg ia sa)) (ds := (sg ib sb)) (vo := va) (vo' := vb) (ov := oa) (ov' := ob) G X.en F88 F89 F90 F91 F92 F83 F84 F85 F86 F93 F94 (Nat.ne_of_lt (Nat.lt_of_lt_of_le F22.lt (Nat.le_trans (Nat.le_trans K39.1 K46.1) g63)))) (w106 G) (w107 G) (nfM (z' := (⟨"com/example/campo_grande/campogrande/ContentKey", "equals", "(Ljava/lang/Object;)Z"⟩ : MethodName)) rfl (w109 G)) (w109 G) (w108 G) F87 (w110 G) (w3 G) (by decide) (by decide) (by decide) rfl (lenOf pd27 rfl) rfl rfl (Nat.le_of_eq rfl) at_235 rfl (by decide) (by decide) (by decide) (by decide) (kp fun T X => ?_)
        refine W.iload (pc' := 240) X at_238 rfl rfl ?_
        refine W.icF (pc' := 243) X at_240 (XT.ii_ne_f hex.symm) rfl ?_
        refine W.aload (pc' := 245) X at_243 rfl rfl rfl ?_
        refine W.aload (pc' := 247) X at_245 rfl rfl rfl ?_
        refine W.callV (pc' := 250) (W := 0) (argsL := [(.ref a2)]) (st := []) (k' := 16) (n' := 432) (a := a2) X (c_keqS (x := a2) (q := (eOf e0 e1 e2 ia)) (a := a17) (b := a18) (vo := va) (ov := oa) (cs := (sg ia sa)) G X.en F87 F89 F90 F91 F92 F93) (w106 G) (w107 G) (nfM (z' := (⟨"com/example/campo_grande/campogrande/ContentKey", "equals", "(Ljava/lang/Object;)Z"⟩ : MethodName)) rfl (w109 G)) (w109 G) (w108 G) F87 (w110 G) (w3 G) (by decide) (by decide) (by decide) rfl (lenOf pd27 rfl) rfl rfl (Nat.le_of_eq rfl) at_247 rfl (by decide) (by decide) (by decide) (by decide) (kp fun T X => ?_)
        refine W.ifF (pc' := 253) X at_250 (by decide) rfl ?_
        refine W.iconst (pc' := 254) X (1 : Int32) at_253 (by decide) rfl ?_
        refine W.goto (pc' := 258) X at_254 (by decide) (by decide) ?_
        refine W.istore (pc' := 260) (ls' := #[.val (.int p0), .val (.int p1), .val (.int p2), .val (.int p3), .val (.int p4), .val (.int p5), .val (.int va), .val (.int vb), .val (.int oa), .val (.int ob), .val (.int sa), .val (.int sb), .val (.int ia), .val (.int ib), .val (.int mo), .val (.ref a2), .val (.ref a45), .val (.ref a45), .val (.int ex), .val (.int (1 : Int32))]) X at_258 rfl rfl ?_
        refine W.iload (pc' := 262) X at_260 rfl rfl ?_
        refine W.iconst (pc' := 263) X (2 : Int32) at_262 (by decide) rfl ?_
        refine W.icF (pc' := 266) X at_263 (XT.ii_ge_f hm) rfl ?_
        refine W.iload (pc' := 268) X at_266 rfl rfl ?_
        refine W.ifF (pc' := 271) X at_268 (by decide) rfl ?_
        refine W.aload (pc' := 273) X at_271 rfl rfl rfl ?_
        refine W.aload (pc' := 275) X at_273 rfl rfl rfl ?_
        refine W.callV (pc' := 278) (W := 0) (argsL := [(.ref a2)]) (st := []) (k' := 16) (n' := 432) (a := a45) X (c_keq (x := a45) (k := a2) (q := (eOf e0 e1 e2 ib)) (q' := (eOf e0 e1 e2 ia)) (a := a60) (b := a61) (a' := a17) (b' := a18) (cs := (sg ib sb)) (ds := (sg ia sa)) (vo := vb) (vo' := va) (ov := ob) (ov' := oa) G X.en F87 F83 F84 F85 F86 F89 F90 F91 F92 F94 F93 (Nat.ne_of_gt (Nat.lt_of_lt_of_le F22.lt (Nat.le_trans (Nat.le_trans K39.1 K46.1) g63)))) (w106 G) (w107 G) (nfM (z' := (⟨"com/example/campo_grande/campogrande/ContentKey", "equals", "(Ljava/lang/Object;)Z"⟩ : MethodName)) rfl (w109 G)) (w109 G) (w108 G) F88 (w110 G) (w3 G) (by decide) (by decide) (by decide) rfl (lenOf pd27 rfl) rfl rfl (Nat.le_of_eq rfl) at_275 rfl (by decide) (by decide) (by decide) (by decide) (kp fun T X => ?_)
        refine W.iload (pc' := 280) X at_278 rfl rfl ?_
        refine W.icF (pc' := 283) X at_280 (XT.ii_ne_f (ife.trans hex.symm)) rfl ?_
        refine W.iconst (pc' := 284) X (1 : Int32) at_283 (by decide) rfl ?_
        refine W.goto (pc' := 288) X at_284 (by decide) (by decide) ?_
        refine W.istore (pc' := 290) (ls' := #[.val (.int p0), .val (.int p1), .val (.int p2), .val (.int p3), .val (.int p4), .val (.int p5), .val (.int va), .val (.int vb), .val (.int oa), .val (.int ob), .val (.int sa), .val (.int sb), .val (.int ia), .val (.int ib), .val (.int mo), .val (.ref a2), .val (.ref a45), .val (.ref a45), .val (.int ex), .val (.int (1 : Int32))]) X at_288 rfl rfl ?_
        refine W.iload (pc' := 292) X at_290 rfl rfl ?_
        exact W.ireturn X at_292 rfl (by decide) (by decide) (by decide) (by decide) rfl
      refine W.iload (pc' := 192) X at_190 rfl rfl ?_
      refine W.iconst (pc' := 193) X (2 : Int32) at_192 (by decide) rfl ?_
      refine W.icF (pc' := 196) X at_193 (XT.ii_ge_f hm) rfl ?_
      refine W.iload (pc' := 198) X at_196 rfl rfl ?_
      refine W.iload (pc' := 200) X at_198 rfl rfl ?_
      by_cases k1 : va = vb
      · skip
        refine W.icF (pc' := 203) X at_200 (XT.ii_ne_f k1) rfl ?_
        refine W.iload (pc' := 205) X at_203 rfl rfl ?_
        refine W.iload (pc' := 207) X at_205 rfl rfl ?_
        by_cases k2 : ia = ib
        · skip
          refine W.icF (pc' := 210) X at_207 (XT.ii_ne_f k2) rfl ?_
          refine W.iload (pc' := 212) X at_210 rfl rfl ?_
          refine W.iload (pc' := 214) X at_212 rfl rfl ?_
          by_cases k3 : sa = sb
          · skip
            refine W.icF (pc' := 217) X at_214 (XT.ii_ne_f k3) rfl ?_
            refine W.iload (pc' := 219) X at_217 rfl rfl ?_
            refine W.iload (pc' := 221) X at_219 rfl rfl ?_
            by_cases k4 : oa = ob
            · skip
              refine W.icF (pc' := 224) X at_221 (XT.ii_ne_f k4) rfl ?_
              refine W.iconst (pc' := 225) X (1 : Int32) at_224 (by decide) rfl ?_
              refine W.goto (pc' := 229) X at_225 (by decide) (by decide) ?_
              refine W.istore (pc' := 231) (ls' := #[.val (.int p0), .val (.int p1), .val (.int p2), .val (.int p3), .val (.int p4), .val (.int p5), .val (.int va), .val (.int vb), .val (.int oa), .val (.int ob), .val (.int sa), .val (.int sb), .val (.int ia), .val (.int ib), .val (.int mo), .val (.ref a2), .val (.ref a45), .val (.ref a45), .val (.int (1 : Int32)), .unset]) X at_229 rfl rfl ?_
              exact s231 _ (if_pos (by subst k1 k2 k3 k4; exact ⟨rfl, rfl, rfl, rfl⟩)).symm
            · skip
              refine W.icT (pc' := 228) X at_221 (XT.ii_ne_t k4) (by decide) (by decide) ?_
              refine W.iconst (pc' := 229) X (0 : Int32) at_228 (by decide) rfl ?_
              refine W.istore (pc' := 231) (ls' := #[.val (.int p0), .val (.int p1), .val (.int p2), .val (.int p3), .val (.int p4), .val (.int p5), .val (.int va), .val (.int vb), .val (.int oa), .val (.int ob), .val (.int sa), .val (.int sb), .val (.int ia), .val (.int ib), .val (.int mo), .val (.ref a2), .val (.ref a45), .val (.ref a45), .val (.int (0 : Int32)), .unset]) X at_229 rfl rfl ?_
              exact s231 _ (if_neg (fun n => k4 n.2.2.2)).symm
          · skip
            refine W.icT (pc' := 228) X at_214 (XT.ii_ne_t k3) (by decide) (by decide) ?_
            refine W.iconst (pc' := 229) X (0 : Int32) at_228 (by decide) rfl ?_
            refine W.istore (pc' := 231) (ls' := #[.val (.int p0), .val (.int p1), .val (.int p2), .val (.int p3), .val (.int p4), .val (.int p5), .val (.int va), .val (.int vb), .val (.int oa), .val (.int ob), .val (.int sa), .val (.int sb), .val (.int ia), .val (.int ib), .val (.int mo), .val (.ref a2), .val (.ref a45), .val (.ref a45), .val (.int (0 : Int32)), .unset]) X at_229 rfl rfl ?_
            exact s231 _ (if_neg (fun n => by subst k2; exact k3 (sg_inj hsa hsb n.2.2.1))).symm
        · skip
          refine W.icT (pc' := 228) X at_207 (XT.ii_ne_t k2) (by decide) (by decide) ?_
          refine W.iconst (pc' := 229) X (0 : Int32) at_228 (by decide) rfl ?_
          refine W.istore (pc' := 231) (ls' := #[.val (.int p0), .val (.int p1), .val (.int p2), .val (.int p3), .val (.int p4), .val (.int p5), .val (.int va), .val (.int vb), .val (.int oa), .val (.int ob), .val (.int sa), .val (.int sb), .val (.int ia), .val (.int ib), .val (.int mo), .val (.ref a2), .val (.ref a45), .val (.ref a45), .val (.int (0 : Int32)), .unset]) X at_229 rfl rfl ?_
          exact s231 _ (if_neg (fun n => k2 (eOf_inj G.2.2.2.2.2.2.2.2.2.2.2.2.1 G.2.2.2.2.2.2.2.2.2.2.2.2.2.2.1 G.2.2.2.2.2.2.2.2.2.2.2.2.2.2.2.2.1 hia hib n.2.1))).symm
      · skip
        refine W.icT (pc' := 228) X at_200 (XT.ii_ne_t k1) (by decide) (by decide) ?_
        refine W.iconst (pc' := 229) X (0 : Int32) at_228 (by decide) rfl ?_
        refine W.istore (pc' := 231) (ls' := #[.val (.int p0), .val (.int p1), .val (.int p2), .val (.int p3), .val (.int p4), .val (.int p5), .val (.int va), .val (.int vb), .val (.int oa), .val (.int ob), .val (.int sa), .val (.int sb), .val (.int ia), .val (.int ib), .val (.int mo), .val (.ref a2), .val (.ref a45), .val (.ref a45), .val (.int (0 : Int32)), .unset]) X at_229 rfl rfl ?_
        exact s231 _ (if_neg (fun n => k1 n.1)).symm
    · skip
      refine W.icT (pc' := 171) X at_161 (XT.ii_ge_t hm) (by decide) (by decide) ?_
      refine W.iload (pc' := 173) X at_171 rfl rfl ?_
      refine W.iconst (pc' := 174) X (2 : Int32) at_173 (by decide) rfl ?_
      by_cases hm2 : mo = (2 : Int32)
      · skip
        refine W.icF (pc' := 177) X at_174 (XT.ii_ne_f hm2) rfl ?_
        refine W.aconst_null (pc' := 178) X at_177 rfl ?_
        refine W.astore (pc' := 180) (ls' := #[.val (.int p0), .val (.int p1), .val (.int p2), .val (.int p3), .val (.int p4), .val (.int p5), .val (.int va), .val (.int vb), .val (.int oa), .val (.int ob), .val (.int sa), .val (.int sb), .val (.int ia), .val (.int ib), .val (.int mo), .val (.ref a2), .val (.ref a45), .val .null, .unset, .unset]) X at_178 rfl rfl rfl ?_
        refine W.goto (pc' := 190) X at_180 (by decide) (by decide) ?_
        refine W.iload (pc' := 192) X at_190 rfl rfl ?_
        refine W.iconst (pc' := 193) X (2 : Int32) at_192 (by decide) rfl ?_
        refine W.icT (pc' := 228) X at_193 (XT.ii_ge_t hm) (by decide) (by decide) ?_
        refine W.iconst (pc' := 229) X (0 : Int32) at_228 (by decide) rfl ?_
        refine W.istore (pc' := 231) (ls' := #[.val (.int p0), .val (.int p1), .val (.int p2), .val (.int p3), .val (.int p4), .val (.int p5), .val (.int va), .val (.int vb), .val (.int oa), .val (.int ob), .val (.int sa), .val (.int sb), .val (.int ia), .val (.int ib), .val (.int mo), .val (.ref a2), .val (.ref a45), .val .null, .val (.int (0 : Int32)), .unset]) X at_229 rfl rfl ?_
        refine W.aload (pc' := 233) X at_231 rfl rfl rfl ?_
        refine W.aload (pc' := 235) X at_233 rfl rfl rfl ?_
        have F95 := ((((F27.keep K39).keep K46).keep K62).keep K82)
        refine W.callV (pc' := 238) (W := 0) (argsL := [.null]) (st := []) (k' := 16) (n' := 432) (a := a2) X (c_keqN (x := a2) G X.en) (w106 G) (w107 G) (nfM (z' := (⟨"com/example/campo_grande/campogrande/ContentKey", "equals", "(Ljava/lang/Object;)Z"⟩ : MethodName)) rfl (w109 G)) (w109 G) (w108 G) F95 (w110 G) (w3 G) (by decide) (by decide) (by decide) rfl (lenOf pd27 rfl) rfl rfl (Nat.le_of_eq rfl) at_235 rfl (by decide) (by decide) (by decide) (by decide) (kp fun T X => ?_)
        refine W.iload (pc' := 240) X at_238 rfl rfl ?_
        refine W.icF (pc' := 243) X at_240 (by decide) rfl ?_
        refine W.aload (pc' := 245) X at_243 rfl rfl rfl ?_
        refine W.aload (pc' := 247) X at_245 rfl rfl rfl ?_
        have F96 := (((F40.keep K46 nin0).keep K62 nin0).keep K82 (ninS (Nat.ne_of_lt (Nat.lt_of_lt_of_le E7.lt (Nat.le_trans (Nat.le_trans K19.1 K39.1) g47))) nin0))
        have F97 := (((F41.keep K46 nin0).keep K62 nin0).keep K82 (ninS (Nat.ne_of_lt (Nat.lt_of_lt_of_le E7.lt (Nat.le_trans (Nat.le_trans K19.1 K39.1) g47))) nin0))
        have F98 := (((F42.keep K46 nin0).keep K62 nin0).keep K82 (ninS (Nat.ne_of_lt (Nat.lt_of_lt_of_le E7.lt (Nat.le_trans (Nat.le_trans K19.1 K39.1) g47))) nin0))
        have F99 := (((F43.keep K46 nin0).keep K62 nin0).keep K82 (ninS (Nat.ne_of_lt (Nat.lt_of_lt_of_le E7.lt (Nat.le_trans (Nat.le_trans K19.1 K39.1) g47))) nin0))
        have F100 := ((((F22.keep K39 (ninS (Nat.ne_of_gt (Nat.lt_of_lt_of_le E7.lt (Nat.le_trans (Nat.le_refl _) g20))) nin0) (ninS (Nat.ne_of_gt (Nat.lt_of_lt_of_le E7.lt (Nat.le_trans (Nat.le_refl _) g21))) nin0)).keep K46 nin0 nin0).keep K62 nin0 nin0).keep K82 (ninS (Nat.ne_of_lt (Nat.lt_of_lt_of_le F22.lt (Nat.le_trans K39.1 g47))) nin0) (ninS (Nat.ne_of_lt (Nat.lt_of_lt_of_le F22.ltb (Nat.le_trans K39.1 g47))) nin0))
        refine W.callV (pc' := 250) (W := 0) (argsL := [(.ref a2)]) (st := []) (k' := 16) (n' := 432) (a := a2) X (c_keqS (x := a2) (q := (eOf e0 e1 e2 ia)) (a := a17) (b := a18) (vo := va) (ov := oa) (cs := (sg ia sa)) G X.en F95 F96 F97 F98 F99 F100) (w106 G) (w107 G) (nfM (z' := (⟨"com/example/campo_grande/campogrande/ContentKey", "equals", "(Ljava/lang/Object;)Z"⟩ : MethodName)) rfl (w109 G)) (w109 G) (w108 G) F95 (w110 G) (w3 G) (by decide) (by decide) (by decide) rfl (lenOf pd27 rfl) rfl rfl (Nat.le_of_eq rfl) at_247 rfl (by decide) (by decide) (by decide) (by decide) (kp fun T X => ?_)
        refine W.ifF (pc' := 253) X at_250 (by decide) rfl ?_
        refine W.iconst (pc' := 254) X (1 : Int32) at_253 (by decide) rfl ?_
        refine W.goto (pc' := 258) X at_254 (by decide) (by decide) ?_
        refine W.istore (pc' := 260) (ls' := #[.val (.int p0), .val (.int p1), .val (.int p2), .val (.int p3), .val (.int p4), .val (.int p5), .val (.int va), .val (.int vb), .val (.int oa), .val (.int ob), .val (.int sa), .val (.int sb), .val (.int ia), .val (.int ib), .val (.int mo), .val (.ref a2), .val (.ref a45), .val .null, .val (.int (0 : Int32)), .val (.int (1 : Int32))]) X at_258 rfl rfl ?_
        refine W.iload (pc' := 262) X at_260 rfl rfl ?_
        refine W.iconst (pc' := 263) X (2 : Int32) at_262 (by decide) rfl ?_
        refine W.icT (pc' := 290) X at_263 (XT.ii_ge_t hm) (by decide) (by decide) ?_
        refine W.iload (pc' := 292) X at_290 rfl rfl ?_
        exact W.ireturn X at_292 rfl (by decide) (by decide) (by decide) (by decide) rfl
      · skip
        refine W.icT (pc' := 183) X at_174 (XT.ii_ne_t hm2) (by decide) (by decide) ?_
        refine W.iload (pc' := 185) X at_183 rfl rfl ?_
        refine W.callS (pc' := 188) (W := 0) (argsL := [(.int va)]) (st := []) (k' := 17) (n' := 433) X (c_ival (n := va) G X.en) (w124 G) (w125 G) (w127 G) (w126 G) (by decide) (by decide) (by decide) rfl (lenOf pd31 rfl) rfl rfl (Nat.le_of_eq rfl) at_185 rfl (by decide) (by decide) (by decide) (by decide) (kr fun T h101 xr X z102 q103 => ?_)
        obtain ⟨a104, rfl, K105, F106⟩ := q103
        refine W.astore (pc' := 190) (ls' := #[.val (.int p0), .val (.int p1), .val (.int p2), .val (.int p3), .val (.int p4), .val (.int p5), .val (.int va), .val (.int vb), .val (.int oa), .val (.int ob), .val (.int sa), .val (.int sb), .val (.int ia), .val (.int ib), .val (.int mo), .val (.ref a2), .val (.ref a45), .val (.ref a104), .unset, .unset]) X at_188 rfl rfl rfl ?_
        refine W.iload (pc' := 192) X at_190 rfl rfl ?_
        refine W.iconst (pc' := 193) X (2 : Int32) at_192 (by decide) rfl ?_
        refine W.icT (pc' := 228) X at_193 (XT.ii_ge_t hm) (by decide) (by decide) ?_
        refine W.iconst (pc' := 229) X (0 : Int32) at_228 (by decide) rfl ?_
        refine W.istore (pc' := 231) (ls' := #[.val (.int p0), .val (.int p1), .val (.int p2), .val (.int p3), .val (.int p4), .val (.int p5), .val (.int va), .val (.int vb), .val (.int oa), .val (.int ob), .val (.int sa), .val (.int sb), .val (.int ia), .val (.int ib), .val (.int mo), .val (.ref a2), .val (.ref a45), .val (.ref a104), .val (.int (0 : Int32)), .unset]) X at_229 rfl rfl ?_
        refine W.aload (pc' := 233) X at_231 rfl rfl rfl ?_
        refine W.aload (pc' := 235) X at_233 rfl rfl rfl ?_
        have F107 := (((((F27.keep K39).keep K46).keep K62).keep K82).keep K105)
        refine W.callV (pc' := 238) (W := 0) (argsL := [(.ref a104)]) (st := []) (k' := 17) (n' := 433) (a := a2) X (c_keqI (x := a2) (k := a104) G X.en F106) (w106 G) (w107 G) (nfM (z' := (⟨"com/example/campo_grande/campogrande/ContentKey", "equals", "(Ljava/lang/Object;)Z"⟩ : MethodName)) rfl (w109 G)) (w109 G) (w108 G) F107 (w110 G) (w3 G) (by decide) (by decide) (by decide) rfl (lenOf pd27 rfl) rfl rfl (Nat.le_of_eq rfl) at_235 rfl (by decide) (by decide) (by decide) (by decide) (kp fun T X => ?_)
        refine W.iload (pc' := 240) X at_238 rfl rfl ?_
        refine W.icF (pc' := 243) X at_240 (by decide) rfl ?_
        refine W.aload (pc' := 245) X at_243 rfl rfl rfl ?_
        refine W.aload (pc' := 247) X at_245 rfl rfl rfl ?_
        have F108 := ((((F40.keep K46 nin0).keep K62 nin0).keep K82 (ninS (Nat.ne_of_lt (Nat.lt_of_lt_of_le E7.lt (Nat.le_trans (Nat.le_trans K19.1 K39.1) g47))) nin0)).keep K105 nin0)
        have F109 := ((((F41.keep K46 nin0).keep K62 nin0).keep K82 (ninS (Nat.ne_of_lt (Nat.lt_of_lt_of_le E7.lt (Nat.le_trans (Nat.le_trans K19.1 K39.1) g47))) nin0)).keep K105 nin0)
        have F110 := ((((F42.keep K46 nin0).keep K62 nin0).keep K82 (ninS (Nat.ne_of_lt (Nat.lt_of_lt_of_le E7.lt (Nat.le_trans (Nat.le_trans K19.1 K39.1) g47))) nin0)).keep K105 nin0)
        have F111 := ((((F43.keep K46 nin0).keep K62 nin0).keep K82 (ninS (Nat.ne_of_lt (Nat.lt_of_lt_of_le E7.lt (Nat.le_trans (Nat.le_trans K19.1 K39.1) g47))) nin0)).keep K105 nin0)
        have F112 := (((((F22.keep K39 (ninS (Nat.ne_of_gt (Nat.lt_of_lt_of_le E7.lt (Nat.le_trans (Nat.le_refl _) g20))) nin0) (ninS (Nat.ne_of_gt (Nat.lt_of_lt_of_le E7.lt (Nat.le_trans (Nat.le_refl _) g21))) nin0)).keep K46 nin0 nin0).keep K62 nin0 nin0).keep K82 (ninS (Nat.ne_of_lt (Nat.lt_of_lt_of_le F22.lt (Nat.le_trans K39.1 g47))) nin0) (ninS (Nat.ne_of_lt (Nat.lt_of_lt_of_le F22.ltb (Nat.le_trans K39.1 g47))) nin0)).keep K105 nin0 nin0)
        refine W.callV (pc' := 250) (W := 0) (argsL := [(.ref a2)]) (st := []) (k' := 17) (n' := 433) (a := a2) X (c_keqS (x := a2) (q := (eOf e0 e1 e2 ia)) (a := a17) (b := a18) (vo := va) (ov := oa) (cs := (sg ia sa)) G X.en F107 F108 F109 F110 F111 F112) (w106 G) (w107 G) (nfM (z' := (⟨"com/example/campo_grande/campogrande/ContentKey", "equals", "(Ljava/lang/Object;)Z"⟩ : MethodName)) rfl (w109 G)) (w109 G) (w108 G) F107 (w110 G) (w3 G) (by decide) (by decide) (by decide) rfl (lenOf pd27 rfl) rfl rfl (Nat.le_of_eq rfl) at_247 rfl (by decide) (by decide) (by decide) (by decide) (kp fun T X => ?_)
        refine W.ifF (pc' := 253) X at_250 (by decide) rfl ?_
        refine W.iconst (pc' := 254) X (1 : Int32) at_253 (by decide) rfl ?_
        refine W.goto (pc' := 258) X at_254 (by decide) (by decide) ?_
        refine W.istore (pc' := 260) (ls' := #[.val (.int p0), .val (.int p1), .val (.int p2), .val (.int p3), .val (.int p4), .val (.int p5), .val (.int va), .val (.int vb), .val (.int oa), .val (.int ob), .val (.int sa), .val (.int sb), .val (.int ia), .val (.int ib), .val (.int mo), .val (.ref a2), .val (.ref a45), .val (.ref a104), .val (.int (0 : Int32)), .val (.int (1 : Int32))]) X at_258 rfl rfl ?_
        refine W.iload (pc' := 262) X at_260 rfl rfl ?_
        refine W.iconst (pc' := 263) X (2 : Int32) at_262 (by decide) rfl ?_
        refine W.icT (pc' := 290) X at_263 (XT.ii_ge_t hm) (by decide) (by decide) ?_
        refine W.iload (pc' := 292) X at_290 rfl rfl ?_
        exact W.ireturn X at_292 rfl (by decide) (by decide) (by decide) (by decide) rfl
  refine W.iloadN (pc' := 1) X at_0 rfl rfl ?_
  refine W.ldcI (pc' := 3) X (w0 G) at_1 rfl ?_
  refine W.iand (pc' := 4) (w := (p0 &&& (2147483647 : Int32))) X at_3 rfl rfl ?_
  refine W.istore (pc' := 6) (ls' := #[.val (.int p0), .val (.int p1), .val (.int p2), .val (.int p3), .val (.int p4), .val (.int p5), .val (.int (p0 &&& (2147483647 : Int32))), .unset, .unset, .unset, .unset, .unset, .unset, .unset, .unset, .unset, .unset, .unset, .unset, .unset]) X at_4 rfl rfl ?_
  refine W.iload (pc' := 8) X at_6 rfl rfl ?_
  refine W.iconst (pc' := 9) X (1 : Int32) at_8 (by decide) rfl ?_
  refine W.iand (pc' := 10) (w := (p5 &&& (1 : Int32))) X at_9 rfl rfl ?_
  by_cases b1 : (p5 &&& (1 : Int32)) = (0 : Int32)
  · skip
    refine W.ifT (pc' := 18) X at_10 (XT.i0_eq_t b1) (by decide) (by decide) ?_
    refine W.iloadN (pc' := 19) X at_18 rfl rfl ?_
    refine W.ldcI (pc' := 21) X (w0 G) at_19 rfl ?_
    refine W.iand (pc' := 22) (w := (p1 &&& (2147483647 : Int32))) X at_21 rfl rfl ?_
    refine W.istore (pc' := 24) (ls' := #[.val (.int p0), .val (.int p1), .val (.int p2), .val (.int p3), .val (.int p4), .val (.int p5), .val (.int (p0 &&& (2147483647 : Int32))), .val (.int (p1 &&& (2147483647 : Int32))), .unset, .unset, .unset, .unset, .unset, .unset, .unset, .unset, .unset, .unset, .unset, .unset]) X at_22 rfl rfl ?_
    refine W.iloadN (pc' := 25) X at_24 rfl rfl ?_
    refine W.ldcI (pc' := 27) X (w0 G) at_25 rfl ?_
    refine W.iand (pc' := 28) (w := (p2 &&& (2147483647 : Int32))) X at_27 rfl rfl ?_
    refine W.istore (pc' := 30) (ls' := #[.val (.int p0), .val (.int p1), .val (.int p2), .val (.int p3), .val (.int p4), .val (.int p5), .val (.int (p0 &&& (2147483647 : Int32))), .val (.int (p1 &&& (2147483647 : Int32))), .val (.int (p2 &&& (2147483647 : Int32))), .unset, .unset, .unset, .unset, .unset, .unset, .unset, .unset, .unset, .unset, .unset]) X at_28 rfl rfl ?_
    refine W.iload (pc' := 32) X at_30 rfl rfl ?_
    refine W.iconst (pc' := 33) X (2 : Int32) at_32 (by decide) rfl ?_
    refine W.iand (pc' := 34) (w := (p5 &&& (2 : Int32))) X at_33 rfl rfl ?_
    by_cases b2 : (p5 &&& (2 : Int32)) = (0 : Int32)
    · skip
      refine W.ifT (pc' := 42) X at_34 (XT.i0_eq_t b2) (by decide) (by decide) ?_
      refine W.iloadN (pc' := 43) X at_42 rfl rfl ?_
      refine W.ldcI (pc' := 45) X (w0 G) at_43 rfl ?_
      refine W.iand (pc' := 46) (w := (p3 &&& (2147483647 : Int32))) X at_45 rfl rfl ?_
      refine W.istore (pc' := 48) (ls' := #[.val (.int p0), .val (.int p1), .val (.int p2), .val (.int p3), .val (.int p4), .val (.int p5), .val (.int (p0 &&& (2147483647 : Int32))), .val (.int (p1 &&& (2147483647 : Int32))), .val (.int (p2 &&& (2147483647 : Int32))), .val (.int (p3 &&& (2147483647 : Int32))), .unset, .unset, .unset, .unset, .unset, .unset, .unset, .unset, .unset, .unset]) X at_46 rfl rfl ?_
      refine W.iload (pc' := 50) X at_48 rfl rfl ?_
      refine W.sipush (pc' := 53) X (4095 : Int32) at_50 (by decide) rfl ?_
      refine W.iand (pc' := 54) (w := (p4 &&& (4095 : Int32))) X at_53 rfl rfl ?_
      refine W.istore (pc' := 56) (ls' := #[.val (.int p0), .val (.int p1), .val (.int p2), .val (.int p3), .val (.int p4), .val (.int p5), .val (.int (p0 &&& (2147483647 : Int32))), .val (.int (p1 &&& (2147483647 : Int32))), .val (.int (p2 &&& (2147483647 : Int32))), .val (.int (p3 &&& (2147483647 : Int32))), .val (.int (p4 &&& (4095 : Int32))), .unset, .unset, .unset, .unset, .unset, .unset, .unset, .unset, .unset]) X at_54 rfl rfl ?_
      refine W.iload (pc' := 58) X at_56 rfl rfl ?_
      refine W.iconst (pc' := 59) X (4 : Int32) at_58 (by decide) rfl ?_
      refine W.iand (pc' := 60) (w := (p5 &&& (4 : Int32))) X at_59 rfl rfl ?_
      by_cases b3 : (p5 &&& (4 : Int32)) = (0 : Int32)
      · skip
        refine W.ifT (pc' := 68) X at_60 (XT.i0_eq_t b3) (by decide) (by decide) ?_
        refine W.iload (pc' := 70) X at_68 rfl rfl ?_
        refine W.bipush (pc' := 72) X (12 : Int32) at_70 (by decide) rfl ?_
        refine W.iushr (pc' := 73) (w := (XT.ushr p4 (12 : Int32))) X at_72 rfl rfl ?_
        refine W.sipush (pc' := 76) X (4095 : Int32) at_73 (by decide) rfl ?_
        refine W.iand (pc' := 77) (w := ((XT.ushr p4 (12 : Int32)) &&& (4095 : Int32))) X at_76 rfl rfl ?_
        refine W.istore (pc' := 79) (ls' := #[.val (.int p0), .val (.int p1), .val (.int p2), .val (.int p3), .val (.int p4), .val (.int p5), .val (.int (p0 &&& (2147483647 : Int32))), .val (.int (p1 &&& (2147483647 : Int32))), .val (.int (p2 &&& (2147483647 : Int32))), .val (.int (p3 &&& (2147483647 : Int32))), .val (.int (p4 &&& (4095 : Int32))), .val (.int ((XT.ushr p4 (12 : Int32)) &&& (4095 : Int32))), .unset, .unset, .unset, .unset, .unset, .unset, .unset, .unset]) X at_77 rfl rfl ?_
        refine W.iload (pc' := 81) X at_79 rfl rfl ?_
        refine W.iconst (pc' := 82) X (3 : Int32) at_81 (by decide) rfl ?_
        refine W.iushr (pc' := 83) (w := (XT.ushr p5 (3 : Int32))) X at_82 rfl rfl ?_
        refine W.iconst (pc' := 84) X (3 : Int32) at_83 (by decide) rfl ?_
        refine W.iand (pc' := 85) (w := ((XT.ushr p5 (3 : Int32)) &&& (3 : Int32))) X at_84 rfl rfl ?_
        refine W.iconst (pc' := 86) X (3 : Int32) at_85 (by decide) rfl ?_
        refine W.irem (pc' := 87) (w := (((XT.ushr p5 (3 : Int32)) &&& (3 : Int32)) % (3 : Int32))) X at_86 (by decide) rfl rfl ?_
        refine W.istore (pc' := 89) (ls' := #[.val (.int p0), .val (.int p1), .val (.int p2), .val (.int p3), .val (.int p4), .val (.int p5), .val (.int (p0 &&& (2147483647 : Int32))), .val (.int (p1 &&& (2147483647 : Int32))), .val (.int (p2 &&& (2147483647 : Int32))), .val (.int (p3 &&& (2147483647 : Int32))), .val (.int (p4 &&& (4095 : Int32))), .val (.int ((XT.ushr p4 (12 : Int32)) &&& (4095 : Int32))), .val (.int (((XT.ushr p5 (3 : Int32)) &&& (3 : Int32)) % (3 : Int32))), .unset, .unset, .unset, .unset, .unset, .unset, .unset]) X at_87 rfl rfl ?_
        refine W.iload (pc' := 91) X at_89 rfl rfl ?_
        refine W.iconst (pc' := 92) X (5 : Int32) at_91 (by decide) rfl ?_
        refine W.iushr (pc' := 93) (w := (XT.ushr p5 (5 : Int32))) X at_92 rfl rfl ?_
        refine W.iconst (pc' := 94) X (3 : Int32) at_93 (by decide) rfl ?_
        refine W.iand (pc' := 95) (w := ((XT.ushr p5 (5 : Int32)) &&& (3 : Int32))) X at_94 rfl rfl ?_
        refine W.iconst (pc' := 96) X (3 : Int32) at_95 (by decide) rfl ?_
        refine W.irem (pc' := 97) (w := (((XT.ushr p5 (5 : Int32)) &&& (3 : Int32)) % (3 : Int32))) X at_96 (by decide) rfl rfl ?_
        refine W.istore (pc' := 99) (ls' := #[.val (.int p0), .val (.int p1), .val (.int p2), .val (.int p3), .val (.int p4), .val (.int p5), .val (.int (p0 &&& (2147483647 : Int32))), .val (.int (p1 &&& (2147483647 : Int32))), .val (.int (p2 &&& (2147483647 : Int32))), .val (.int (p3 &&& (2147483647 : Int32))), .val (.int (p4 &&& (4095 : Int32))), .val (.int ((XT.ushr p4 (12 : Int32)) &&& (4095 : Int32))), .val (.int (((XT.ushr p5 (3 : Int32)) &&& (3 : Int32)) % (3 : Int32))), .val (.int (((XT.ushr p5 (5 : Int32)) &&& (3 : Int32)) % (3 : Int32))), .unset, .unset, .unset, .unset, .unset, .unset]) X at_97 rfl rfl ?_
        refine W.iload (pc' := 101) X at_99 rfl rfl ?_
        refine W.bipush (pc' := 103) X (7 : Int32) at_101 (by decide) rfl ?_
        refine W.iushr (pc' := 104) (w := (XT.ushr p5 (7 : Int32))) X at_103 rfl rfl ?_
        refine W.iconst (pc' := 105) X (3 : Int32) at_104 (by decide) rfl ?_
        refine W.iand (pc' := 106) (w := ((XT.ushr p5 (7 : Int32)) &&& (3 : Int32))) X at_105 rfl rfl ?_
        refine W.istore (pc' := 108) (ls' := #[.val (.int p0), .val (.int p1), .val (.int p2), .val (.int p3), .val (.int p4), .val (.int p5), .val (.int (p0 &&& (2147483647 : Int32))), .val (.int (p1 &&& (2147483647 : Int32))), .val (.int (p2 &&& (2147483647 : Int32))), .val (.int (p3 &&& (2147483647 : Int32))), .val (.int (p4 &&& (4095 : Int32))), .val (.int ((XT.ushr p4 (12 : Int32)) &&& (4095 : Int32))), .val (.int (((XT.ushr p5 (3 : Int32)) &&& (3 : Int32)) % (3 : Int32))), .val (.int (((XT.ushr p5 (5 : Int32)) &&& (3 : Int32)) % (3 : Int32))), .val (.int ((XT.ushr p5 (7 : Int32)) &&& (3 : Int32))), .unset, .unset, .unset, .unset, .unset]) X at_106 rfl rfl ?_
        exact s108 (p0 &&& (2147483647 : Int32)) (p1 &&& (2147483647 : Int32)) (p2 &&& (2147483647 : Int32)) (p3 &&& (2147483647 : Int32)) (p4 &&& (4095 : Int32)) ((XT.ushr p4 (12 : Int32)) &&& (4095 : Int32)) (((XT.ushr p5 (3 : Int32)) &&& (3 : Int32)) % (3 : Int32)) (((XT.ushr p5 (5 : Int32)) &&& (3 : Int32)) % (3 : Int32)) ((XT.ushr p5 (7 : Int32)) &&& (3 : Int32)) (pos31 _) (pos31 _) (pos31 _) (pos31 _) (s12 _) (s12 _) (mod3 _) (mod3 _)
      · skip
        refine W.ifF (pc' := 63) X at_60 (XT.i0_eq_f b3) rfl ?_
        refine W.iload (pc' := 65) X at_63 rfl rfl ?_
        refine W.goto (pc' := 77) X at_65 (by decide) (by decide) ?_
        refine W.istore (pc' := 79) (ls' := #[.val (.int p0), .val (.int p1), .val (.int p2), .val (.int p3), .val (.int p4), .val (.int p5), .val (.int (p0 &&& (2147483647 : Int32))), .val (.int (p1 &&& (2147483647 : Int32))), .val (.int (p2 &&& (2147483647 : Int32))), .val (.int (p3 &&& (2147483647 : Int32))), .val (.int (p4 &&& (4095 : Int32))), .val (.int (p4 &&& (4095 : Int32))), .unset, .unset, .unset, .unset, .unset, .unset, .unset, .unset]) X at_77 rfl rfl ?_
        refine W.iload (pc' := 81) X at_79 rfl rfl ?_
        refine W.iconst (pc' := 82) X (3 : Int32) at_81 (by decide) rfl ?_
        refine W.iushr (pc' := 83) (w := (XT.ushr p5 (3 : Int32))) X at_82 rfl rfl ?_
        refine W.iconst (pc' := 84) X (3 : Int32) at_83 (by decide) rfl ?_
        refine W.iand (pc' := 85) (w := ((XT.ushr p5 (3 : Int32)) &&& (3 : Int32))) X at_84 rfl rfl ?_
        refine W.iconst (pc' := 86) X (3 : Int32) at_85 (by decide) rfl ?_
        refine W.irem (pc' := 87) (w := (((XT.ushr p5 (3 : Int32)) &&& (3 : Int32)) % (3 : Int32))) X at_86 (by decide) rfl rfl ?_
        refine W.istore (pc' := 89) (ls' := #[.val (.int p0), .val (.int p1), .val (.int p2), .val (.int p3), .val (.int p4), .val (.int p5), .val (.int (p0 &&& (2147483647 : Int32))), .val (.int (p1 &&& (2147483647 : Int32))), .val (.int (p2 &&& (2147483647 : Int32))), .val (.int (p3 &&& (2147483647 : Int32))), .val (.int (p4 &&& (4095 : Int32))), .val (.int (p4 &&& (4095 : Int32))), .val (.int (((XT.ushr p5 (3 : Int32)) &&& (3 : Int32)) % (3 : Int32))), .unset, .unset, .unset, .unset, .unset, .unset, .unset]) X at_87 rfl rfl ?_
        refine W.iload (pc' := 91) X at_89 rfl rfl ?_
        refine W.iconst (pc' := 92) X (5 : Int32) at_91 (by decide) rfl ?_
        refine W.iushr (pc' := 93) (w := (XT.ushr p5 (5 : Int32))) X at_92 rfl rfl ?_
        refine W.iconst (pc' := 94) X (3 : Int32) at_93 (by decide) rfl ?_
        refine W.iand (pc' := 95) (w := ((XT.ushr p5 (5 : Int32)) &&& (3 : Int32))) X at_94 rfl rfl ?_
        refine W.iconst (pc' := 96) X (3 : Int32) at_95 (by decide) rfl ?_
        refine W.irem (pc' := 97) (w := (((XT.ushr p5 (5 : Int32)) &&& (3 : Int32)) % (3 : Int32))) X at_96 (by decide) rfl rfl ?_
        refine W.istore (pc' := 99) (ls' := #[.val (.int p0), .val (.int p1), .val (.int p2), .val (.int p3), .val (.int p4), .val (.int p5), .val (.int (p0 &&& (2147483647 : Int32))), .val (.int (p1 &&& (2147483647 : Int32))), .val (.int (p2 &&& (2147483647 : Int32))), .val (.int (p3 &&& (2147483647 : Int32))), .val (.int (p4 &&& (4095 : Int32))), .val (.int (p4 &&& (4095 : Int32))), .val (.int (((XT.ushr p5 (3 : Int32)) &&& (3 : Int32)) % (3 : Int32))), .val (.int (((XT.ushr p5 (5 : Int32)) &&& (3 : Int32)) % (3 : Int32))), .unset, .unset, .unset, .unset, .unset, .unset]) X at_97 rfl rfl ?_
        refine W.iload (pc' := 101) X at_99 rfl rfl ?_
        refine W.bipush (pc' := 103) X (7 : Int32) at_101 (by decide) rfl ?_
        refine W.iushr (pc' := 104) (w := (XT.ushr p5 (7 : Int32))) X at_103 rfl rfl ?_
        refine W.iconst (pc' := 105) X (3 : Int32) at_104 (by decide) rfl ?_
        refine W.iand (pc' := 106) (w := ((XT.ushr p5 (7 : Int32)) &&& (3 : Int32))) X at_105 rfl rfl ?_
        refine W.istore (pc' := 108) (ls' := #[.val (.int p0), .val (.int p1), .val (.int p2), .val (.int p3), .val (.int p4), .val (.int p5), .val (.int (p0 &&& (2147483647 : Int32))), .val (.int (p1 &&& (2147483647 : Int32))), .val (.int (p2 &&& (2147483647 : Int32))), .val (.int (p3 &&& (2147483647 : Int32))), .val (.int (p4 &&& (4095 : Int32))), .val (.int (p4 &&& (4095 : Int32))), .val (.int (((XT.ushr p5 (3 : Int32)) &&& (3 : Int32)) % (3 : Int32))), .val (.int (((XT.ushr p5 (5 : Int32)) &&& (3 : Int32)) % (3 : Int32))), .val (.int ((XT.ushr p5 (7 : Int32)) &&& (3 : Int32))), .unset, .unset, .unset, .unset, .unset]) X at_106 rfl rfl ?_
        exact s108 (p0 &&& (2147483647 : Int32)) (p1 &&& (2147483647 : Int32)) (p2 &&& (2147483647 : Int32)) (p3 &&& (2147483647 : Int32)) (p4 &&& (4095 : Int32)) (p4 &&& (4095 : Int32)) (((XT.ushr p5 (3 : Int32)) &&& (3 : Int32)) % (3 : Int32)) (((XT.ushr p5 (5 : Int32)) &&& (3 : Int32)) % (3 : Int32)) ((XT.ushr p5 (7 : Int32)) &&& (3 : Int32)) (pos31 _) (pos31 _) (pos31 _) (pos31 _) (s12 _) (s12 _) (mod3 _) (mod3 _)
    · skip
      refine W.ifF (pc' := 37) X at_34 (XT.i0_eq_f b2) rfl ?_
      refine W.iload (pc' := 39) X at_37 rfl rfl ?_
      refine W.goto (pc' := 46) X at_39 (by decide) (by decide) ?_
      refine W.istore (pc' := 48) (ls' := #[.val (.int p0), .val (.int p1), .val (.int p2), .val (.int p3), .val (.int p4), .val (.int p5), .val (.int (p0 &&& (2147483647 : Int32))), .val (.int (p1 &&& (2147483647 : Int32))), .val (.int (p2 &&& (2147483647 : Int32))), .val (.int (p2 &&& (2147483647 : Int32))), .unset, .unset, .unset, .unset, .unset, .unset, .unset, .unset, .unset, .unset]) X at_46 rfl rfl ?_
      refine W.iload (pc' := 50) X at_48 rfl rfl ?_
      refine W.sipush (pc' := 53) X (4095 : Int32) at_50 (by decide) rfl ?_
      refine W.iand (pc' := 54) (w := (p4 &&& (4095 : Int32))) X at_53 rfl rfl ?_
      refine W.istore (pc' := 56) (ls' := #[.val (.int p0), .val (.int p1), .val (.int p2), .val (.int p3), .val (.int p4), .val (.int p5), .val (.int (p0 &&& (2147483647 : Int32))), .val (.int (p1 &&& (2147483647 : Int32))), .val (.int (p2 &&& (2147483647 : Int32))), .val (.int (p2 &&& (2147483647 : Int32))), .val (.int (p4 &&& (4095 : Int32))), .unset, .unset, .unset, .unset, .unset, .unset, .unset, .unset, .unset]) X at_54 rfl rfl ?_
      refine W.iload (pc' := 58) X at_56 rfl rfl ?_
      refine W.iconst (pc' := 59) X (4 : Int32) at_58 (by decide) rfl ?_
      refine W.iand (pc' := 60) (w := (p5 &&& (4 : Int32))) X at_59 rfl rfl ?_
      by_cases b3 : (p5 &&& (4 : Int32)) = (0 : Int32)
      · skip
        refine W.ifT (pc' := 68) X at_60 (XT.i0_eq_t b3) (by decide) (by decide) ?_
        refine W.iload (pc' := 70) X at_68 rfl rfl ?_
        refine W.bipush (pc' := 72) X (12 : Int32) at_70 (by decide) rfl ?_
        refine W.iushr (pc' := 73) (w := (XT.ushr p4 (12 : Int32))) X at_72 rfl rfl ?_
        refine W.sipush (pc' := 76) X (4095 : Int32) at_73 (by decide) rfl ?_
        refine W.iand (pc' := 77) (w := ((XT.ushr p4 (12 : Int32)) &&& (4095 : Int32))) X at_76 rfl rfl ?_
        refine W.istore (pc' := 79) (ls' := #[.val (.int p0), .val (.int p1), .val (.int p2), .val (.int p3), .val (.int p4), .val (.int p5), .val (.int (p0 &&& (2147483647 : Int32))), .val (.int (p1 &&& (2147483647 : Int32))), .val (.int (p2 &&& (2147483647 : Int32))), .val (.int (p2 &&& (2147483647 : Int32))), .val (.int (p4 &&& (4095 : Int32))), .val (.int ((XT.ushr p4 (12 : Int32)) &&& (4095 : Int32))), .unset, .unset, .unset, .unset, .unset, .unset, .unset, .unset]) X at_77 rfl rfl ?_
        refine W.iload (pc' := 81) X at_79 rfl rfl ?_
        refine W.iconst (pc' := 82) X (3 : Int32) at_81 (by decide) rfl ?_
        refine W.iushr (pc' := 83) (w := (XT.ushr p5 (3 : Int32))) X at_82 rfl rfl ?_
        refine W.iconst (pc' := 84) X (3 : Int32) at_83 (by decide) rfl ?_
        refine W.iand (pc' := 85) (w := ((XT.ushr p5 (3 : Int32)) &&& (3 : Int32))) X at_84 rfl rfl ?_
        refine W.iconst (pc' := 86) X (3 : Int32) at_85 (by decide) rfl ?_
        refine W.irem (pc' := 87) (w := (((XT.ushr p5 (3 : Int32)) &&& (3 : Int32)) % (3 : Int32))) X at_86 (by decide) rfl rfl ?_
        refine W.istore (pc' := 89) (ls' := #[.val (.int p0), .val (.int p1), .val (.int p2), .val (.int p3), .val (.int p4), .val (.int p5), .val (.int (p0 &&& (2147483647 : Int32))), .val (.int (p1 &&& (2147483647 : Int32))), .val (.int (p2 &&& (2147483647 : Int32))), .val (.int (p2 &&& (2147483647 : Int32))), .val (.int (p4 &&& (4095 : Int32))), .val (.int ((XT.ushr p4 (12 : Int32)) &&& (4095 : Int32))), .val (.int (((XT.ushr p5 (3 : Int32)) &&& (3 : Int32)) % (3 : Int32))), .unset, .unset, .unset, .unset, .unset, .unset, .unset]) X at_87 rfl rfl ?_
        refine W.iload (pc' := 91) X at_89 rfl rfl ?_
        refine W.iconst (pc' := 92) X (5 : Int32) at_91 (by decide) rfl ?_
        refine W.iushr (pc' := 93) (w := (XT.ushr p5 (5 : Int32))) X at_92 rfl rfl ?_
        refine W.iconst (pc' := 94) X (3 : Int32) at_93 (by decide) rfl ?_
        refine W.iand (pc' := 95) (w := ((XT.ushr p5 (5 : Int32)) &&& (3 : Int32))) X at_94 rfl rfl ?_
        refine W.iconst (pc' := 96) X (3 : Int32) at_95 (by decide) rfl ?_
        refine W.irem (pc' := 97) (w := (((XT.ushr p5 (5 : Int32)) &&& (3 : Int32)) % (3 : Int32))) X at_96 (by decide) rfl rfl ?_
        refine W.istore (pc' := 99) (ls' := #[.val (.int p0), .val (.int p1), .val (.int p2), .val (.int p3), .val (.int p4), .val (.int p5), .val (.int (p0 &&& (2147483647 : Int32))), .val (.int (p1 &&& (2147483647 : Int32))), .val (.int (p2 &&& (2147483647 : Int32))), .val (.int (p2 &&& (2147483647 : Int32))), .val (.int (p4 &&& (4095 : Int32))), .val (.int ((XT.ushr p4 (12 : Int32)) &&& (4095 : Int32))), .val (.int (((XT.ushr p5 (3 : Int32)) &&& (3 : Int32)) % (3 : Int32))), .val (.int (((XT.ushr p5 (5 : Int32)) &&& (3 : Int32)) % (3 : Int32))), .unset, .unset, .unset, .unset, .unset, .unset]) X at_97 rfl rfl ?_
        refine W.iload (pc' := 101) X at_99 rfl rfl ?_
        refine W.bipush (pc' := 103) X (7 : Int32) at_101 (by decide) rfl ?_
        refine W.iushr (pc' := 104) (w := (XT.ushr p5 (7 : Int32))) X at_103 rfl rfl ?_
        refine W.iconst (pc' := 105) X (3 : Int32) at_104 (by decide) rfl ?_
        refine W.iand (pc' := 106) (w := ((XT.ushr p5 (7 : Int32)) &&& (3 : Int32))) X at_105 rfl rfl ?_
        refine W.istore (pc' := 108) (ls' := #[.val (.int p0), .val (.int p1), .val (.int p2), .val (.int p3), .val (.int p4), .val (.int p5), .val (.int (p0 &&& (2147483647 : Int32))), .val (.int (p1 &&& (2147483647 : Int32))), .val (.int (p2 &&& (2147483647 : Int32))), .val (.int (p2 &&& (2147483647 : Int32))), .val (.int (p4 &&& (4095 : Int32))), .val (.int ((XT.ushr p4 (12 : Int32)) &&& (4095 : Int32))), .val (.int (((XT.ushr p5 (3 : Int32)) &&& (3 : Int32)) % (3 : Int32))), .val (.int (((XT.ushr p5 (5 : Int32)) &&& (3 : Int32)) % (3 : Int32))), .val (.int ((XT.ushr p5 (7 : Int32)) &&& (3 : Int32))), .unset, .unset, .unset, .unset, .unset]) X at_106 rfl rfl ?_
        exact s108 (p0 &&& (2147483647 : Int32)) (p1 &&& (2147483647 : Int32)) (p2 &&& (2147483647 : Int32)) (p2 &&& (2147483647 : Int32)) (p4 &&& (4095 : Int32)) ((XT.ushr p4 (12 : Int32)) &&& (4095 : Int32)) (((XT.ushr p5 (3 : Int32)) &&& (3 : Int32)) % (3 : Int32)) (((XT.ushr p5 (5 : Int32)) &&& (3 : Int32)) % (3 : Int32)) ((XT.ushr p5 (7 : Int32)) &&& (3 : Int32)) (pos31 _) (pos31 _) (pos31 _) (pos31 _) (s12 _) (s12 _) (mod3 _) (mod3 _)
      · skip
        refine W.ifF (pc' := 63) X at_60 (XT.i0_eq_f b3) rfl ?_
        refine W.iload (pc' := 65) X at_63 rfl rfl ?_
        refine W.goto (pc' := 77) X at_65 (by decide) (by decide) ?_
        refine W.istore (pc' := 79) (ls' := #[.val (.int p0), .val (.int p1), .val (.int p2), .val (.int p3), .val (.int p4), .val (.int p5), .val (.int (p0 &&& (2147483647 : Int32))), .val (.int (p1 &&& (2147483647 : Int32))), .val (.int (p2 &&& (2147483647 : Int32))), .val (.int (p2 &&& (2147483647 : Int32))), .val (.int (p4 &&& (4095 : Int32))), .val (.int (p4 &&& (4095 : Int32))), .unset, .unset, .unset, .unset, .unset, .unset, .unset, .unset]) X at_77 rfl rfl ?_
        refine W.iload (pc' := 81) X at_79 rfl rfl ?_
        refine W.iconst (pc' := 82) X (3 : Int32) at_81 (by decide) rfl ?_
        refine W.iushr (pc' := 83) (w := (XT.ushr p5 (3 : Int32))) X at_82 rfl rfl ?_
        refine W.iconst (pc' := 84) X (3 : Int32) at_83 (by decide) rfl ?_
        refine W.iand (pc' := 85) (w := ((XT.ushr p5 (3 : Int32)) &&& (3 : Int32))) X at_84 rfl rfl ?_
        refine W.iconst (pc' := 86) X (3 : Int32) at_85 (by decide) rfl ?_
        refine W.irem (pc' := 87) (w := (((XT.ushr p5 (3 : Int32)) &&& (3 : Int32)) % (3 : Int32))) X at_86 (by decide) rfl rfl ?_
        refine W.istore (pc' := 89) (ls' := #[.val (.int p0), .val (.int p1), .val (.int p2), .val (.int p3), .val (.int p4), .val (.int p5), .val (.int (p0 &&& (2147483647 : Int32))), .val (.int (p1 &&& (2147483647 : Int32))), .val (.int (p2 &&& (2147483647 : Int32))), .val (.int (p2 &&& (2147483647 : Int32))), .val (.int (p4 &&& (4095 : Int32))), .val (.int (p4 &&& (4095 : Int32))), .val (.int (((XT.ushr p5 (3 : Int32)) &&& (3 : Int32)) % (3 : Int32))), .unset, .unset, .unset, .unset, .unset, .unset, .unset]) X at_87 rfl rfl ?_
        refine W.iload (pc' := 91) X at_89 rfl rfl ?_
        refine W.iconst (pc' := 92) X (5 : Int32) at_91 (by decide) rfl ?_
        refine W.iushr (pc' := 93) (w := (XT.ushr p5 (5 : Int32))) X at_92 rfl rfl ?_
        refine W.iconst (pc' := 94) X (3 : Int32) at_93 (by decide) rfl ?_
        refine W.iand (pc' := 95) (w := ((XT.ushr p5 (5 : Int32)) &&& (3 : Int32))) X at_94 rfl rfl ?_
        refine W.iconst (pc' := 96) X (3 : Int32) at_95 (by decide) rfl ?_
        refine W.irem (pc' := 97) (w := (((XT.ushr p5 (5 : Int32)) &&& (3 : Int32)) % (3 : Int32))) X at_96 (by decide) rfl rfl ?_
        refine W.istore (pc' := 99) (ls' := #[.val (.int p0), .val (.int p1), .val (.int p2), .val (.int p3), .val (.int p4), .val (.int p5), .val (.int (p0 &&& (2147483647 : Int32))), .val (.int (p1 &&& (2147483647 : Int32))), .val (.int (p2 &&& (2147483647 : Int32))), .val (.int (p2 &&& (2147483647 : Int32))), .val (.int (p4 &&& (4095 : Int32))), .val (.int (p4 &&& (4095 : Int32))), .val (.int (((XT.ushr p5 (3 : Int32)) &&& (3 : Int32)) % (3 : Int32))), .val (.int (((XT.ushr p5 (5 : Int32)) &&& (3 : Int32)) % (3 : Int32))), .unset, .unset, .unset, .unset, .unset, .unset]) X at_97 rfl rfl ?_
        refine W.iload (pc' := 101) X at_99 rfl rfl ?_
        refine W.bipush (pc' := 103) X (7 : Int32) at_101 (by decide) rfl ?_
        refine W.iushr (pc' := 104) (w := (XT.ushr p5 (7 : Int32))) X at_103 rfl rfl ?_
        refine W.iconst (pc' := 105) X (3 : Int32) at_104 (by decide) rfl ?_
        refine W.iand (pc' := 106) (w := ((XT.ushr p5 (7 : Int32)) &&& (3 : Int32))) X at_105 rfl rfl ?_
        refine W.istore (pc' := 108) (ls' := #[.val (.int p0), .val (.int p1), .val (.int p2), .val (.int p3), .val (.int p4), .val (.int p5), .val (.int (p0 &&& (2147483647 : Int32))), .val (.int (p1 &&& (2147483647 : Int32))), .val (.int (p2 &&& (2147483647 : Int32))), .val (.int (p2 &&& (2147483647 : Int32))), .val (.int (p4 &&& (4095 : Int32))), .val (.int (p4 &&& (4095 : Int32))), .val (.int (((XT.ushr p5 (3 : Int32)) &&& (3 : Int32)) % (3 : Int32))), .val (.int (((XT.ushr p5 (5 : Int32)) &&& (3 : Int32)) % (3 : Int32))), .val (.int ((XT.ushr p5 (7 : Int32)) &&& (3 : Int32))), .unset, .unset, .unset, .unset, .unset]) X at_106 rfl rfl ?_
        exact s108 (p0 &&& (2147483647 : Int32)) (p1 &&& (2147483647 : Int32)) (p2 &&& (2147483647 : Int32)) (p2 &&& (2147483647 : Int32)) (p4 &&& (4095 : Int32)) (p4 &&& (4095 : Int32)) (((XT.ushr p5 (3 : Int32)) &&& (3 : Int32)) % (3 : Int32)) (((XT.ushr p5 (5 : Int32)) &&& (3 : Int32)) % (3 : Int32)) ((XT.ushr p5 (7 : Int32)) &&& (3 : Int32)) (pos31 _) (pos31 _) (pos31 _) (pos31 _) (s12 _) (s12 _) (mod3 _) (mod3 _)
  · skip
    refine W.ifF (pc' := 13) X at_10 (XT.i0_eq_f b1) rfl ?_
    refine W.iload (pc' := 15) X at_13 rfl rfl ?_
    refine W.goto (pc' := 22) X at_15 (by decide) (by decide) ?_
    refine W.istore (pc' := 24) (ls' := #[.val (.int p0), .val (.int p1), .val (.int p2), .val (.int p3), .val (.int p4), .val (.int p5), .val (.int (p0 &&& (2147483647 : Int32))), .val (.int (p0 &&& (2147483647 : Int32))), .unset, .unset, .unset, .unset, .unset, .unset, .unset, .unset, .unset, .unset, .unset, .unset]) X at_22 rfl rfl ?_
    refine W.iloadN (pc' := 25) X at_24 rfl rfl ?_
    refine W.ldcI (pc' := 27) X (w0 G) at_25 rfl ?_
    refine W.iand (pc' := 28) (w := (p2 &&& (2147483647 : Int32))) X at_27 rfl rfl ?_
    refine W.istore (pc' := 30) (ls' := #[.val (.int p0), .val (.int p1), .val (.int p2), .val (.int p3), .val (.int p4), .val (.int p5), .val (.int (p0 &&& (2147483647 : Int32))), .val (.int (p0 &&& (2147483647 : Int32))), .val (.int (p2 &&& (2147483647 : Int32))), .unset, .unset, .unset, .unset, .unset, .unset, .unset, .unset, .unset, .unset, .unset]) X at_28 rfl rfl ?_
    refine W.iload (pc' := 32) X at_30 rfl rfl ?_
    refine W.iconst (pc' := 33) X (2 : Int32) at_32 (by decide) rfl ?_
    refine W.iand (pc' := 34) (w := (p5 &&& (2 : Int32))) X at_33 rfl rfl ?_
    by_cases b2 : (p5 &&& (2 : Int32)) = (0 : Int32)
    · skip
      refine W.ifT (pc' := 42) X at_34 (XT.i0_eq_t b2) (by decide) (by decide) ?_
      refine W.iloadN (pc' := 43) X at_42 rfl rfl ?_
      refine W.ldcI (pc' := 45) X (w0 G) at_43 rfl ?_
      refine W.iand (pc' := 46) (w := (p3 &&& (2147483647 : Int32))) X at_45 rfl rfl ?_
      refine W.istore (pc' := 48) (ls' := #[.val (.int p0), .val (.int p1), .val (.int p2), .val (.int p3), .val (.int p4), .val (.int p5), .val (.int (p0 &&& (2147483647 : Int32))), .val (.int (p0 &&& (2147483647 : Int32))), .val (.int (p2 &&& (2147483647 : Int32))), .val (.int (p3 &&& (2147483647 : Int32))), .unset, .unset, .unset, .unset, .unset, .unset, .unset, .unset, .unset, .unset]) X at_46 rfl rfl ?_
      refine W.iload (pc' := 50) X at_48 rfl rfl ?_
      refine W.sipush (pc' := 53) X (4095 : Int32) at_50 (by decide) rfl ?_
      refine W.iand (pc' := 54) (w := (p4 &&& (4095 : Int32))) X at_53 rfl rfl ?_
      refine W.istore (pc' := 56) (ls' := #[.val (.int p0), .val (.int p1), .val (.int p2), .val (.int p3), .val (.int p4), .val (.int p5), .val (.int (p0 &&& (2147483647 : Int32))), .val (.int (p0 &&& (2147483647 : Int32))), .val (.int (p2 &&& (2147483647 : Int32))), .val (.int (p3 &&& (2147483647 : Int32))), .val (.int (p4 &&& (4095 : Int32))), .unset, .unset, .unset, .unset, .unset, .unset, .unset, .unset, .unset]) X at_54 rfl rfl ?_
      refine W.iload (pc' := 58) X at_56 rfl rfl ?_
      refine W.iconst (pc' := 59) X (4 : Int32) at_58 (by decide) rfl ?_
      refine W.iand (pc' := 60) (w := (p5 &&& (4 : Int32))) X at_59 rfl rfl ?_
      by_cases b3 : (p5 &&& (4 : Int32)) = (0 : Int32)
      · skip
        refine W.ifT (pc' := 68) X at_60 (XT.i0_eq_t b3) (by decide) (by decide) ?_
        refine W.iload (pc' := 70) X at_68 rfl rfl ?_
        refine W.bipush (pc' := 72) X (12 : Int32) at_70 (by decide) rfl ?_
        refine W.iushr (pc' := 73) (w := (XT.ushr p4 (12 : Int32))) X at_72 rfl rfl ?_
        refine W.sipush (pc' := 76) X (4095 : Int32) at_73 (by decide) rfl ?_
        refine W.iand (pc' := 77) (w := ((XT.ushr p4 (12 : Int32)) &&& (4095 : Int32))) X at_76 rfl rfl ?_
        refine W.istore (pc' := 79) (ls' := #[.val (.int p0), .val (.int p1), .val (.int p2), .val (.int p3), .val (.int p4), .val (.int p5), .val (.int (p0 &&& (2147483647 : Int32))), .val (.int (p0 &&& (2147483647 : Int32))), .val (.int (p2 &&& (2147483647 : Int32))), .val (.int (p3 &&& (2147483647 : Int32))), .val (.int (p4 &&& (4095 : Int32))), .val (.int ((XT.ushr p4 (12 : Int32)) &&& (4095 : Int32))), .unset, .unset, .unset, .unset, .unset, .unset, .unset, .unset]) X at_77 rfl rfl ?_
        refine W.iload (pc' := 81) X at_79 rfl rfl ?_
        refine W.iconst (pc' := 82) X (3 : Int32) at_81 (by decide) rfl ?_
        refine W.iushr (pc' := 83) (w := (XT.ushr p5 (3 : Int32))) X at_82 rfl rfl ?_
        refine W.iconst (pc' := 84) X (3 : Int32) at_83 (by decide) rfl ?_
        refine W.iand (pc' := 85) (w := ((XT.ushr p5 (3 : Int32)) &&& (3 : Int32))) X at_84 rfl rfl ?_
        refine W.iconst (pc' := 86) X (3 : Int32) at_85 (by decide) rfl ?_
        refine W.irem (pc' := 87) (w := (((XT.ushr p5 (3 : Int32)) &&& (3 : Int32)) % (3 : Int32))) X at_86 (by decide) rfl rfl ?_
        refine W.istore (pc' := 89) (ls' := #[.val (.int p0), .val (.int p1), .val (.int p2), .val (.int p3), .val (.int p4), .val (.int p5), .val (.int (p0 &&& (2147483647 : Int32))), .val (.int (p0 &&& (2147483647 : Int32))), .val (.int (p2 &&& (2147483647 : Int32))), .val (.int (p3 &&& (2147483647 : Int32))), .val (.int (p4 &&& (4095 : Int32))), .val (.int ((XT.ushr p4 (12 : Int32)) &&& (4095 : Int32))), .val (.int (((XT.ushr p5 (3 : Int32)) &&& (3 : Int32)) % (3 : Int32))), .unset, .unset, .unset, .unset, .unset, .unset, .unset]) X at_87 rfl rfl ?_
        refine W.iload (pc' := 91) X at_89 rfl rfl ?_
        refine W.iconst (pc' := 92) X (5 : Int32) at_91 (by decide) rfl ?_
        refine W.iushr (pc' := 93) (w := (XT.ushr p5 (5 : Int32))) X at_92 rfl rfl ?_
        refine W.iconst (pc' := 94) X (3 : Int32) at_93 (by decide) rfl ?_
        refine W.iand (pc' := 95) (w := ((XT.ushr p5 (5 : Int32)) &&& (3 : Int32))) X at_94 rfl rfl ?_
        refine W.iconst (pc' := 96) X (3 : Int32) at_95 (by decide) rfl ?_
        refine W.irem (pc' := 97) (w := (((XT.ushr p5 (5 : Int32)) &&& (3 : Int32)) % (3 : Int32))) X at_96 (by decide) rfl rfl ?_
        refine W.istore (pc' := 99) (ls' := #[.val (.int p0), .val (.int p1), .val (.int p2), .val (.int p3), .val (.int p4), .val (.int p5), .val (.int (p0 &&& (2147483647 : Int32))), .val (.int (p0 &&& (2147483647 : Int32))), .val (.int (p2 &&& (2147483647 : Int32))), .val (.int (p3 &&& (2147483647 : Int32))), .val (.int (p4 &&& (4095 : Int32))), .val (.int ((XT.ushr p4 (12 : Int32)) &&& (4095 : Int32))), .val (.int (((XT.ushr p5 (3 : Int32)) &&& (3 : Int32)) % (3 : Int32))), .val (.int (((XT.ushr p5 (5 : Int32)) &&& (3 : Int32)) % (3 : Int32))), .unset, .unset, .unset, .unset, .unset, .unset]) X at_97 rfl rfl ?_
        refine W.iload (pc' := 101) X at_99 rfl rfl ?_
        refine W.bipush (pc' := 103) X (7 : Int32) at_101 (by decide) rfl ?_
        refine W.iushr (pc' := 104) (w := (XT.ushr p5 (7 : Int32))) X at_103 rfl rfl ?_
        refine W.iconst (pc' := 105) X (3 : Int32) at_104 (by decide) rfl ?_
        refine W.iand (pc' := 106) (w := ((XT.ushr p5 (7 : Int32)) &&& (3 : Int32))) X at_105 rfl rfl ?_
        refine W.istore (pc' := 108) (ls' := #[.val (.int p0), .val (.int p1), .val (.int p2), .val (.int p3), .val (.int p4), .val (.int p5), .val (.int (p0 &&& (2147483647 : Int32))), .val (.int (p0 &&& (2147483647 : Int32))), .val (.int (p2 &&& (2147483647 : Int32))), .val (.int (p3 &&& (2147483647 : Int32))), .val (.int (p4 &&& (4095 : Int32))), .val (.int ((XT.ushr p4 (12 : Int32)) &&& (4095 : Int32))), .val (.int (((XT.ushr p5 (3 : Int32)) &&& (3 : Int32)) % (3 : Int32))), .val (.int (((XT.ushr p5 (5 : Int32)) &&& (3 : Int32)) % (3 : Int32))), .val (.int ((XT.ushr p5 (7 : Int32)) &&& (3 : Int32))), .unset, .unset, .unset, .unset, .unset]) X at_106 rfl rfl ?_
        exact s108 (p0 &&& (2147483647 : Int32)) (p0 &&& (2147483647 : Int32)) (p2 &&& (2147483647 : Int32)) (p3 &&& (2147483647 : Int32)) (p4 &&& (4095 : Int32)) ((XT.ushr p4 (12 : Int32)) &&& (4095 : Int32)) (((XT.ushr p5 (3 : Int32)) &&& (3 : Int32)) % (3 : Int32)) (((XT.ushr p5 (5 : Int32)) &&& (3 : Int32)) % (3 : Int32)) ((XT.ushr p5 (7 : Int32)) &&& (3 : Int32)) (pos31 _) (pos31 _) (pos31 _) (pos31 _) (s12 _) (s12 _) (mod3 _) (mod3 _)
      · skip
        refine W.ifF (pc' := 63) X at_60 (XT.i0_eq_f b3) rfl ?_
        refine W.iload (pc' := 65) X at_63 rfl rfl ?_
        refine W.goto (pc' := 77) X at_65 (by decide) (by decide) ?_
        refine W.istore (pc' := 79) (ls' := #[.val (.int p0), .val (.int p1), .val (.int p2), .val (.int p3), .val (.int p4), .val (.int p5), .val (.int (p0 &&& (2147483647 : Int32))), .val (.int (p0 &&& (2147483647 : Int32))), .val (.int (p2 &&& (2147483647 : Int32))), .val (.int (p3 &&& (2147483647 : Int32))), .val (.int (p4 &&& (4095 : Int32))), .val (.int (p4 &&& (4095 : Int32))), .unset, .unset, .unset, .unset, .unset, .unset, .unset, .unset]) X at_77 rfl rfl ?_
        refine W.iload (pc' := 81) X at_79 rfl rfl ?_
        refine W.iconst (pc' := 82) X (3 : Int32) at_81 (by decide) rfl ?_
        refine W.iushr (pc' := 83) (w := (XT.ushr p5 (3 : Int32))) X at_82 rfl rfl ?_
        refine W.iconst (pc' := 84) X (3 : Int32) at_83 (by decide) rfl ?_
        refine W.iand (pc' := 85) (w := ((XT.ushr p5 (3 : Int32)) &&& (3 : Int32))) X at_84 rfl rfl ?_
        refine W.iconst (pc' := 86) X (3 : Int32) at_85 (by decide) rfl ?_
        refine W.irem (pc' := 87) (w := (((XT.ushr p5 (3 : Int32)) &&& (3 : Int32)) % (3 : Int32))) X at_86 (by decide) rfl rfl ?_
        refine W.istore (pc' := 89) (ls' := #[.val (.int p0), .val (.int p1), .val (.int p2), .val (.int p3), .val (.int p4), .val (.int p5), .val (.int (p0 &&& (2147483647 : Int32))), .val (.int (p0 &&& (2147483647 : Int32))), .val (.int (p2 &&& (2147483647 : Int32))), .val (.int (p3 &&& (2147483647 : Int32))), .val (.int (p4 &&& (4095 : Int32))), .val (.int (p4 &&& (4095 : Int32))), .val (.int (((XT.ushr p5 (3 : Int32)) &&& (3 : Int32)) % (3 : Int32))), .unset, .unset, .unset, .unset, .unset, .unset, .unset]) X at_87 rfl rfl ?_
        refine W.iload (pc' := 91) X at_89 rfl rfl ?_
        refine W.iconst (pc' := 92) X (5 : Int32) at_91 (by decide) rfl ?_
        refine W.iushr (pc' := 93) (w := (XT.ushr p5 (5 : Int32))) X at_92 rfl rfl ?_
        refine W.iconst (pc' := 94) X (3 : Int32) at_93 (by decide) rfl ?_
        refine W.iand (pc' := 95) (w := ((XT.ushr p5 (5 : Int32)) &&& (3 : Int32))) X at_94 rfl rfl ?_
        refine W.iconst (pc' := 96) X (3 : Int32) at_95 (by decide) rfl ?_
        refine W.irem (pc' := 97) (w := (((XT.ushr p5 (5 : Int32)) &&& (3 : Int32)) % (3 : Int32))) X at_96 (by decide) rfl rfl ?_
        refine W.istore (pc' := 99) (ls' := #[.val (.int p0), .val (.int p1), .val (.int p2), .val (.int p3), .val (.int p4), .val (.int p5), .val (.int (p0 &&& (2147483647 : Int32))), .val (.int (p0 &&& (2147483647 : Int32))), .val (.int (p2 &&& (2147483647 : Int32))), .val (.int (p3 &&& (2147483647 : Int32))), .val (.int (p4 &&& (4095 : Int32))), .val (.int (p4 &&& (4095 : Int32))), .val (.int (((XT.ushr p5 (3 : Int32)) &&& (3 : Int32)) % (3 : Int32))), .val (.int (((XT.ushr p5 (5 : Int32)) &&& (3 : Int32)) % (3 : Int32))), .unset, .unset, .unset, .unset, .unset, .unset]) X at_97 rfl rfl ?_
        refine W.iload (pc' := 101) X at_99 rfl rfl ?_
        refine W.bipush (pc' := 103) X (7 : Int32) at_101 (by decide) rfl ?_
        refine W.iushr (pc' := 104) (w := (XT.ushr p5 (7 : Int32))) X at_103 rfl rfl ?_
        refine W.iconst (pc' := 105) X (3 : Int32) at_104 (by decide) rfl ?_
        refine W.iand (pc' := 106) (w := ((XT.ushr p5 (7 : Int32)) &&& (3 : Int32))) X at_105 rfl rfl ?_
        refine W.istore (pc' := 108) (ls' := #[.val (.int p0), .val (.int p1), .val (.int p2), .val (.int p3), .val (.int p4), .val (.int p5), .val (.int (p0 &&& (2147483647 : Int32))), .val (.int (p0 &&& (2147483647 : Int32))), .val (.int (p2 &&& (2147483647 : Int32))), .val (.int (p3 &&& (2147483647 : Int32))), .val (.int (p4 &&& (4095 : Int32))), .val (.int (p4 &&& (4095 : Int32))), .val (.int (((XT.ushr p5 (3 : Int32)) &&& (3 : Int32)) % (3 : Int32))), .val (.int (((XT.ushr p5 (5 : Int32)) &&& (3 : Int32)) % (3 : Int32))), .val (.int ((XT.ushr p5 (7 : Int32)) &&& (3 : Int32))), .unset, .unset, .unset, .unset, .unset]) X at_106 rfl rfl ?_
        exact s108 (p0 &&& (2147483647 : Int32)) (p0 &&& (2147483647 : Int32)) (p2 &&& (2147483647 : Int32)) (p3 &&& (2147483647 : Int32)) (p4 &&& (4095 : Int32)) (p4 &&& (4095 : Int32)) (((XT.ushr p5 (3 : Int32)) &&& (3 : Int32)) % (3 : Int32)) (((XT.ushr p5 (5 : Int32)) &&& (3 : Int32)) % (3 : Int32)) ((XT.ushr p5 (7 : Int32)) &&& (3 : Int32)) (pos31 _) (pos31 _) (pos31 _) (pos31 _) (s12 _) (s12 _) (mod3 _) (mod3 _)
    · skip
      refine W.ifF (pc' := 37) X at_34 (XT.i0_eq_f b2) rfl ?_
      refine W.iload (pc' := 39) X at_37 rfl rfl ?_
      refine W.goto (pc' := 46) X at_39 (by decide) (by decide) ?_
      refine W.istore (pc' := 48) (ls' := #[.val (.int p0), .val (.int p1), .val (.int p2), .val (.int p3), .val (.int p4), .val (.int p5), .val (.int (p0 &&& (2147483647 : Int32))), .val (.int (p0 &&& (2147483647 : Int32))), .val (.int (p2 &&& (2147483647 : Int32))), .val (.int (p2 &&& (2147483647 : Int32))), .unset, .unset, .unset, .unset, .unset, .unset, .unset, .unset, .unset, .unset]) X at_46 rfl rfl ?_
      refine W.iload (pc' := 50) X at_48 rfl rfl ?_
      refine W.sipush (pc' := 53) X (4095 : Int32) at_50 (by decide) rfl ?_
      refine W.iand (pc' := 54) (w := (p4 &&& (4095 : Int32))) X at_53 rfl rfl ?_
      refine W.istore (pc' := 56) (ls' := #[.val (.int p0), .val (.int p1), .val (.int p2), .val (.int p3), .val (.int p4), .val (.int p5), .val (.int (p0 &&& (2147483647 : Int32))), .val (.int (p0 &&& (2147483647 : Int32))), .val (.int (p2 &&& (2147483647 : Int32))), .val (.int (p2 &&& (2147483647 : Int32))), .val (.int (p4 &&& (4095 : Int32))), .unset, .unset, .unset, .unset, .unset, .unset, .unset, .unset, .unset]) X at_54 rfl rfl ?_
      refine W.iload (pc' := 58) X at_56 rfl rfl ?_
      refine W.iconst (pc' := 59) X (4 : Int32) at_58 (by decide) rfl ?_
      refine W.iand (pc' := 60) (w := (p5 &&& (4 : Int32))) X at_59 rfl rfl ?_
      by_cases b3 : (p5 &&& (4 : Int32)) = (0 : Int32)
      · skip
        refine W.ifT (pc' := 68) X at_60 (XT.i0_eq_t b3) (by decide) (by decide) ?_
        refine W.iload (pc' := 70) X at_68 rfl rfl ?_
        refine W.bipush (pc' := 72) X (12 : Int32) at_70 (by decide) rfl ?_
        refine W.iushr (pc' := 73) (w := (XT.ushr p4 (12 : Int32))) X at_72 rfl rfl ?_
        refine W.sipush (pc' := 76) X (4095 : Int32) at_73 (by decide) rfl ?_
        refine W.iand (pc' := 77) (w := ((XT.ushr p4 (12 : Int32)) &&& (4095 : Int32))) X at_76 rfl rfl ?_
        refine W.istore (pc' := 79) (ls' := #[.val (.int p0), .val (.int p1), .val (.int p2), .val (.int p3), .val (.int p4), .val (.int p5), .val (.int (p0 &&& (2147483647 : Int32))), .val (.int (p0 &&& (2147483647 : Int32))), .val (.int (p2 &&& (2147483647 : Int32))), .val (.int (p2 &&& (2147483647 : Int32))), .val (.int (p4 &&& (4095 : Int32))), .val (.int ((XT.ushr p4 (12 : Int32)) &&& (4095 : Int32))), .unset, .unset, .unset, .unset, .unset, .unset, .unset, .unset]) X at_77 rfl rfl ?_
        refine W.iload (pc' := 81) X at_79 rfl rfl ?_
        refine W.iconst (pc' := 82) X (3 : Int32) at_81 (by decide) rfl ?_
        refine W.iushr (pc' := 83) (w := (XT.ushr p5 (3 : Int32))) X at_82 rfl rfl ?_
        refine W.iconst (pc' := 84) X (3 : Int32) at_83 (by decide) rfl ?_
        refine W.iand (pc' := 85) (w := ((XT.ushr p5 (3 : Int32)) &&& (3 : Int32))) X at_84 rfl rfl ?_
        refine W.iconst (pc' := 86) X (3 : Int32) at_85 (by decide) rfl ?_
        refine W.irem (pc' := 87) (w := (((XT.ushr p5 (3 : Int32)) &&& (3 : Int32)) % (3 : Int32))) X at_86 (by decide) rfl rfl ?_
        refine W.istore (pc' := 89) (ls' := #[.val (.int p0), .val (.int p1), .val (.int p2), .val (.int p3), .val (.int p4), .val (.int p5), .val (.int (p0 &&& (2147483647 : Int32))), .val (.int (p0 &&& (2147483647 : Int32))), .val (.int (p2 &&& (2147483647 : Int32))), .val (.int (p2 &&& (2147483647 : Int32))), .val (.int (p4 &&& (4095 : Int32))), .val (.int ((XT.ushr p4 (12 : Int32)) &&& (4095 : Int32))), .val (.int (((XT.ushr p5 (3 : Int32)) &&& (3 : Int32)) % (3 : Int32))), .unset, .unset, .unset, .unset, .unset, .unset, .unset]) X at_87 rfl rfl ?_
        refine W.iload (pc' := 91) X at_89 rfl rfl ?_
        refine W.iconst (pc' := 92) X (5 : Int32) at_91 (by decide) rfl ?_
        refine W.iushr (pc' := 93) (w := (XT.ushr p5 (5 : Int32))) X at_92 rfl rfl ?_
        refine W.iconst (pc' := 94) X (3 : Int32) at_93 (by decide) rfl ?_
        refine W.iand (pc' := 95) (w := ((XT.ushr p5 (5 : Int32)) &&& (3 : Int32))) X at_94 rfl rfl ?_
        refine W.iconst (pc' := 96) X (3 : Int32) at_95 (by decide) rfl ?_
        refine W.irem (pc' := 97) (w := (((XT.ushr p5 (5 : Int32)) &&& (3 : Int32)) % (3 : Int32))) X at_96 (by decide) rfl rfl ?_
        refine W.istore (pc' := 99) (ls' := #[.val (.int p0), .val (.int p1), .val (.int p2), .val (.int p3), .val (.int p4), .val (.int p5), .val (.int (p0 &&& (2147483647 : Int32))), .val (.int (p0 &&& (2147483647 : Int32))), .val (.int (p2 &&& (2147483647 : Int32))), .val (.int (p2 &&& (2147483647 : Int32))), .val (.int (p4 &&& (4095 : Int32))), .val (.int ((XT.ushr p4 (12 : Int32)) &&& (4095 : Int32))), .val (.int (((XT.ushr p5 (3 : Int32)) &&& (3 : Int32)) % (3 : Int32))), .val (.int (((XT.ushr p5 (5 : Int32)) &&& (3 : Int32)) % (3 : Int32))), .unset, .unset, .unset, .unset, .unset, .unset]) X at_97 rfl rfl ?_
        refine W.iload (pc' := 101) X at_99 rfl rfl ?_
        refine W.bipush (pc' := 103) X (7 : Int32) at_101 (by decide) rfl ?_
        refine W.iushr (pc' := 104) (w := (XT.ushr p5 (7 : Int32))) X at_103 rfl rfl ?_
        refine W.iconst (pc' := 105) X (3 : Int32) at_104 (by decide) rfl ?_
        refine W.iand (pc' := 106) (w := ((XT.ushr p5 (7 : Int32)) &&& (3 : Int32))) X at_105 rfl rfl ?_
        refine W.istore (pc' := 108) (ls' := #[.val (.int p0), .val (.int p1), .val (.int p2), .val (.int p3), .val (.int p4), .val (.int p5), .val (.int (p0 &&& (2147483647 : Int32))), .val (.int (p0 &&& (2147483647 : Int32))), .val (.int (p2 &&& (2147483647 : Int32))), .val (.int (p2 &&& (2147483647 : Int32))), .val (.int (p4 &&& (4095 : Int32))), .val (.int ((XT.ushr p4 (12 : Int32)) &&& (4095 : Int32))), .val (.int (((XT.ushr p5 (3 : Int32)) &&& (3 : Int32)) % (3 : Int32))), .val (.int (((XT.ushr p5 (5 : Int32)) &&& (3 : Int32)) % (3 : Int32))), .val (.int ((XT.ushr p5 (7 : Int32)) &&& (3 : Int32))), .unset, .unset, .unset, .unset, .unset]) X at_106 rfl rfl ?_
        exact s108 (p0 &&& (2147483647 : Int32)) (p0 &&& (2147483647 : Int32)) (p2 &&& (2147483647 : Int32)) (p2 &&& (2147483647 : Int32)) (p4 &&& (4095 : Int32)) ((XT.ushr p4 (12 : Int32)) &&& (4095 : Int32)) (((XT.ushr p5 (3 : Int32)) &&& (3 : Int32)) % (3 : Int32)) (((XT.ushr p5 (5 : Int32)) &&& (3 : Int32)) % (3 : Int32)) ((XT.ushr p5 (7 : Int32)) &&& (3 : Int32)) (pos31 _) (pos31 _) (pos31 _) (pos31 _) (s12 _) (s12 _) (mod3 _) (mod3 _)
      · skip
        refine W.ifF (pc' := 63) X at_60 (XT.i0_eq_f b3) rfl ?_
        refine W.iload (pc' := 65) X at_63 rfl rfl ?_
        refine W.goto (pc' := 77) X at_65 (by decide) (by decide) ?_
        refine W.istore (pc' := 79) (ls' := #[.val (.int p0), .val (.int p1), .val (.int p2), .val (.int p3), .val (.int p4), .val (.int p5), .val (.int (p0 &&& (2147483647 : Int32))), .val (.int (p0 &&& (2147483647 : Int32))), .val (.int (p2 &&& (2147483647 : Int32))), .val (.int (p2 &&& (2147483647 : Int32))), .val (.int (p4 &&& (4095 : Int32))), .val (.int (p4 &&& (4095 : Int32))), .unset, .unset, .unset, .unset, .unset, .unset, .unset, .unset]) X at_77 rfl rfl ?_
        refine W.iload (pc' := 81) X at_79 rfl rfl ?_
        refine W.iconst (pc' := 82) X (3 : Int32) at_81 (by decide) rfl ?_
        refine W.iushr (pc' := 83) (w := (XT.ushr p5 (3 : Int32))) X at_82 rfl rfl ?_
        refine W.iconst (pc' := 84) X (3 : Int32) at_83 (by decide) rfl ?_
        refine W.iand (pc' := 85) (w := ((XT.ushr p5 (3 : Int32)) &&& (3 : Int32))) X at_84 rfl rfl ?_
        refine W.iconst (pc' := 86) X (3 : Int32) at_85 (by decide) rfl ?_
        refine W.irem (pc' := 87) (w := (((XT.ushr p5 (3 : Int32)) &&& (3 : Int32)) % (3 : Int32))) X at_86 (by decide) rfl rfl ?_
        refine W.istore (pc' := 89) (ls' := #[.val (.int p0), .val (.int p1), .val (.int p2), .val (.int p3), .val (.int p4), .val (.int p5), .val (.int (p0 &&& (2147483647 : Int32))), .val (.int (p0 &&& (2147483647 : Int32))), .val (.int (p2 &&& (2147483647 : Int32))), .val (.int (p2 &&& (2147483647 : Int32))), .val (.int (p4 &&& (4095 : Int32))), .val (.int (p4 &&& (4095 : Int32))), .val (.int (((XT.ushr p5 (3 : Int32)) &&& (3 : Int32)) % (3 : Int32))), .unset, .unset, .unset, .unset, .unset, .unset, .unset]) X at_87 rfl rfl ?_
        refine W.iload (pc' := 91) X at_89 rfl rfl ?_
        refine W.iconst (pc' := 92) X (5 : Int32) at_91 (by decide) rfl ?_
        refine W.iushr (pc' := 93) (w := (XT.ushr p5 (5 : Int32))) X at_92 rfl rfl ?_
        refine W.iconst (pc' := 94) X (3 : Int32) at_93 (by decide) rfl ?_
        refine W.iand (pc' := 95) (w := ((XT.ushr p5 (5 : Int32)) &&& (3 : Int32))) X at_94 rfl rfl ?_
        refine W.iconst (pc' := 96) X (3 : Int32) at_95 (by decide) rfl ?_
        refine W.irem (pc' := 97) (w := (((XT.ushr p5 (5 : Int32)) &&& (3 : Int32)) % (3 : Int32))) X at_96 (by decide) rfl rfl ?_
        refine W.istore (pc' := 99) (ls' := #[.val (.int p0), .val (.int p1), .val (.int p2), .val (.int p3), .val (.int p4), .val (.int p5), .val (.int (p0 &&& (2147483647 : Int32))), .val (.int (p0 &&& (2147483647 : Int32))), .val (.int (p2 &&& (2147483647 : Int32))), .val (.int (p2 &&& (2147483647 : Int32))), .val (.int (p4 &&& (4095 : Int32))), .val (.int (p4 &&& (4095 : Int32))), .val (.int (((XT.ushr p5 (3 : Int32)) &&& (3 : Int32)) % (3 : Int32))), .val (.int (((XT.ushr p5 (5 : Int32)) &&& (3 : Int32)) % (3 : Int32))), .unset, .unset, .unset, .unset, .unset, .unset]) X at_97 rfl rfl ?_
        refine W.iload (pc' := 101) X at_99 rfl rfl ?_
        refine W.bipush (pc' := 103) X (7 : Int32) at_101 (by decide) rfl ?_
        refine W.iushr (pc' := 104) (w := (XT.ushr p5 (7 : Int32))) X at_103 rfl rfl ?_
        refine W.iconst (pc' := 105) X (3 : Int32) at_104 (by decide) rfl ?_
        refine W.iand (pc' := 106) (w := ((XT.ushr p5 (7 : Int32)) &&& (3 : Int32))) X at_105 rfl rfl ?_
        refine W.istore (pc' := 108) (ls' := #[.val (.int p0), .val (.int p1), .val (.int p2), .val (.int p3), .val (.int p4), .val (.int p5), .val (.int (p0 &&& (2147483647 : Int32))), .val (.int (p0 &&& (2147483647 : Int32))), .val (.int (p2 &&& (2147483647 : Int32))), .val (.int (p2 &&& (2147483647 : Int32))), .val (.int (p4 &&& (4095 : Int32))), .val (.int (p4 &&& (4095 : Int32))), .val (.int (((XT.ushr p5 (3 : Int32)) &&& (3 : Int32)) % (3 : Int32))), .val (.int (((XT.ushr p5 (5 : Int32)) &&& (3 : Int32)) % (3 : Int32))), .val (.int ((XT.ushr p5 (7 : Int32)) &&& (3 : Int32))), .unset, .unset, .unset, .unset, .unset]) X at_106 rfl rfl ?_
        exact s108 (p0 &&& (2147483647 : Int32)) (p0 &&& (2147483647 : Int32)) (p2 &&& (2147483647 : Int32)) (p2 &&& (2147483647 : Int32)) (p4 &&& (4095 : Int32)) (p4 &&& (4095 : Int32)) (((XT.ushr p5 (3 : Int32)) &&& (3 : Int32)) % (3 : Int32)) (((XT.ushr p5 (5 : Int32)) &&& (3 : Int32)) % (3 : Int32)) ((XT.ushr p5 (7 : Int32)) &&& (3 : Int32)) (pos31 _) (pos31 _) (pos31 _) (pos31 _) (s12 _) (s12 _) (mod3 _) (mod3 _)
set_option maxRecDepth 65536 in
set_option maxHeartbeats 40000000 in
theorem comes_1 {Post : Tables → Env → Array Value → State → Outcome → State → Prop} (hpost : ∀ tb e args s v u, (limb_1_1.after args s (.returned v) u = true ∧ limb_1_2.after args s (.returned v) u = true ∧ True) → ReturnedEndW s (.returned v) u (Jvm.fieldLocs frame_1_writes args s ++ Jvm.arrayLocs frame_1_arrays args s ++ Jvm.staticLocs frame_1_statics s) 32 2688 → Post tb e args s (.returned v) u) :
    ArmFor flags0 classFile x code maxLocals ret World_1 tables_1 room_1 Calls_1 rest_1 Pre_1 Post := by
  intro l hfl _ _ p e ha hc hk s m args below hf hA hF happ hP
  obtain ⟨hcalls, hrest, hpre⟩ := hP
  obtain ⟨-, -, -, hnamed, -, -, -, hat⟩ := (Spec.applies_iff hf).mp happ
  obtain ⟨hg, hn⟩ := and_e (Cond.before_iff.mp (show (Jvm.Cond.and given_1 narrow_1).before args s = true from hpre))
  obtain ⟨h1, h2⟩ := and_e hg
  obtain ⟨w0, w1, w2, w3, w4, w5, rfl⟩ : ∃ w0 w1 w2 w3 w4 w5 : Value, args = #[w0, w1, w2, w3, w4, w5] := by
    have hs : args.size = 6 := by simpa [Cond.value, given_1] using h1
    obtain ⟨L⟩ := args
    match L, hs with
    | [w0, w1, w2, w3, w4, w5], _ => exact ⟨w0, w1, w2, w3, w4, w5, rfl⟩
  obtain ⟨k0, r0⟩ := and_e h2
  obtain ⟨i0, e0⟩ := is_v k0
  obtain rfl : w0 = (.int i0) := Option.some.inj e0
  obtain ⟨k1, r1⟩ := and_e r0
  obtain ⟨i1, e1⟩ := is_v k1
  obtain rfl : w1 = (.int i1) := Option.some.inj e1
  obtain ⟨k2, r2⟩ := and_e r1
  obtain ⟨i2, e2⟩ := is_v k2
  obtain rfl : w2 = (.int i2) := Option.some.inj e2
  obtain ⟨k3, r3⟩ := and_e r2
  obtain ⟨i3, e3⟩ := is_v k3
  obtain rfl : w3 = (.int i3) := Option.some.inj e3
  obtain ⟨k4, r4⟩ := and_e r3
  obtain ⟨i4, e4⟩ := is_v k4
  obtain rfl : w4 = (.int i4) := Option.some.inj e4
  obtain ⟨i5, e5⟩ := is_v r4
  obtain rfl : w5 = (.int i5) := Option.some.inj e5
  have hw := fun d (hd : d ∈ tables_1) => atoms_spec (ws := Jvm.Cond.code x code maxLocals ret :: tables_1) hat d (List.mem_cons_of_mem _ hd)
  obtain ⟨hsets, hown0⟩ := atoms_of _ (rest_1_c_eq ▸ (show rest_1_c.before _ s = true from hrest))
  obtain ⟨zC, v1⟩ := is_v (Cond.before_iff.mp (hsets _ (List.mem_of_getElem? (i := 1) rfl)))
  have c1 : ¬ (zC = (0 : Int32)) := gotF (Cond.eq_ints v1 (Term.int_eval (0))) (not_v (Cond.before_iff.mp (hsets _ (List.mem_of_getElem? (i := 2) rfl))))
  have S1 := Sta.start v1 (Or.inl (hsets _ (List.mem_of_getElem? (i := 0) rfl)))
  obtain ⟨fS, v2, c2⟩ := isR_v (Cond.before_iff.mp (hsets _ (List.mem_of_getElem? (i := 8) rfl)))
  have S2 := Sta.start v2 (Or.inl (hsets _ (List.mem_of_getElem? (i := 7) rfl)))
  have S3 := Sta.start (eqv_i (Term.int_eval (127)) (Cond.before_iff.mp (hsets _ (List.mem_of_getElem? (i := 12) rfl)))) (Or.inl (hsets _ (List.mem_of_getElem? (i := 10) rfl)))
  obtain ⟨cA, vC⟩ := arr_v (Cond.before_iff.mp (hsets _ (List.mem_of_getElem? (i := 13) rfl)))
  have S4 := Sta.start vC (Or.inr ⟨(hw _ (List.mem_of_getElem? (i := 129) rfl)), (hsets _ (List.mem_of_getElem? (i := 11) rfl))⟩)
  obtain ⟨m0, s0⟩ := and_e hn
  obtain ⟨m1, s1⟩ := and_e s0
  obtain ⟨m2, s2⟩ := and_e s1
  obtain ⟨m3, s3⟩ := and_e s2
  obtain ⟨m4, s4⟩ := and_e s3
  obtain ⟨m5, s5⟩ := and_e s4
  obtain ⟨m6, s6⟩ := and_e s5
  obtain ⟨m7, s7⟩ := and_e s6
  have m8 := s7
  obtain ⟨e0, v8⟩ := exa_v m0
  have S8 := Sta.start v8 (Or.inr ⟨(hw _ (List.mem_of_getElem? (i := 9) rfl)), (hw _ (List.mem_of_getElem? (i := 10) rfl))⟩)
  obtain ⟨e1, v9⟩ := exa_v m2
  have S9 := Sta.start v9 (Or.inr ⟨(hw _ (List.mem_of_getElem? (i := 9) rfl)), (hw _ (List.mem_of_getElem? (i := 123) rfl))⟩)
  obtain ⟨e2, v10⟩ := exa_v m6
  have S10 := Sta.start v10 (Or.inr ⟨(hw _ (List.mem_of_getElem? (i := 9) rfl)), (hw _ (List.mem_of_getElem? (i := 150) rfl))⟩)
  have Xe0 := Exa.start v8 m0
  have Ye0 : Fld s s.heap e0 "com/example/campo_grande/campogrande/SignatureAlgorithm" "digestLength" "I" (.int (32 : Int32)) := Fld.start ((fld_at v8).symm.trans (Cond.eq_int (Cond.before_iff.mpr m1) rfl))
  have Xe1 := Exa.start v9 m2
  have Ye1 : Fld s s.heap e1 "com/example/campo_grande/campogrande/SignatureAlgorithm" "digestLength" "I" (.int (20 : Int32)) := Fld.start ((fld_at v9).symm.trans (Cond.eq_int (Cond.before_iff.mpr m3) rfl))
  have Xe2 := Exa.start v10 m6
  have Ye2 : Fld s s.heap e2 "com/example/campo_grande/campogrande/SignatureAlgorithm" "digestLength" "I" (.int (16 : Int32)) := Fld.start ((fld_at v10).symm.trans (Cond.eq_int (Cond.before_iff.mpr m7) rfl))
  have Yc : Cch s cA := Cch.start (fun idx => vC) (Cond.before_iff.mp (hsets _ (List.mem_of_getElem? (i := 13) rfl))) (Cond.before_iff.mp (hsets _ (List.mem_of_getElem? (i := 15) rfl))) (Cond.before_iff.mp (hsets _ (List.mem_of_getElem? (i := 16) rfl)))
  have hew : EW s #[(.int i0), (.int i1), (.int i2), (.int i3), (.int i4), (.int i5)] [] := EW.nil
  have G : Gl s #[(.int i0), (.int i1), (.int i2), (.int i3), (.int i4), (.int i5)] zC fS cA e0 e1 e2 := ⟨hw, hew, S1, c1, S2, c2, S3, S4, S8, S9, S10, Xe0, Ye0, Xe1, Ye1, Xe2, Ye2, Yc, trivial⟩
  have hch : CHv s [] s.vm s.heap := fun p hp => by cases hp
  obtain ⟨n, o, h1, h2, h3, v, L, B', rfl, N, -, -, -, -, -, rfl, hq⟩ := c_law (l := l) (B := fun x => Bk s [] s.vm s.heap x) G ⟨⟨Nat.le_refl _, fun _ _ q => q⟩, fun x r => by obtain ⟨cell, q⟩ := r.there; exact (Array.getElem?_eq_some_iff.mp q).1⟩ p e ha hc hk s m _ below hf ((Spec.applies_iff_loose hf).mp happ).1 ⟨rfl, State.Warmed39.refl s, rfl, hch, fun x r => r⟩ trivial
  refine ⟨n, _, h1, h2, h3, hpost _ _ _ _ _ _ ⟨Cond.after_iff.mpr rfl, Cond.after_iff.mpr (eq_i res_at (Term.int_eval (1)) rfl), trivial⟩ ⟨hq.1, hq.2.1, hq.2.2.1, (hq.2.2.2.sift fun y hy => Or.inr (N y hy)).mono (by decide) (by decide)⟩⟩
theorem main_1_1 : Claimed_1_1 := comes_1 fun _ _ _ _ _ _ h hF => ⟨h.1, hF⟩
theorem main_1_2 : Claimed_1_2 := comes_1 fun _ _ _ _ _ _ h hF => ⟨h.2.1, hF⟩
end Jvm.Pilot.@@N@@
namespace Jvm.Pilot.@@N@@
open Jvm Jvm.ClassFile Sem Op Lib Jvm.Free Jvm.Stand Jvm.Pilot.@@N@@.Jvm.D
/-! MADE BY PROGRAM (witnessworld.py) out of the Statement's table words and the real class files: 25 classes; the members and pool entries that the words name. The judged class is class 1, her method 4. -/
namespace start1
open Jvm.ClassFile
def u (s : String) : CpInfo := .utf8 (stringToUtf16 s)
/-- a pool by its gaps: so many unusable entries, then the entry; so many at the end -/
def gap : Nat → List CpInfo → List CpInfo
  | 0, r => r
  | n + 1, r => .unusable :: gap n r
def poolList (es : List (Nat × CpInfo)) (last : Nat) : List CpInfo := es.foldr (fun e r => gap e.1 (e.2 :: r)) (gap last [])
def pool (es : List (Nat × CpInfo)) (last : Nat) : Array CpInfo := ⟨poolList es last⟩
def fileOf (pool : Array CpInfo) (this : Nat) (attrs : Array Attribute := #[]) (ms : Array MethodInfo := #[]) (fl : Nat := 33) (sup : Nat := 0) (ifs : Array Nat := #[]) (fds : Array FieldInfo := #[]) : ClassFile where
  minorVersion := 0
  majorVersion := 65
  constantPool := pool
  accessFlags := fl
  thisClass := this
  superClass := sup
  interfaces := ifs
  fields := fds
  methods := ms
  attributes := attrs
def plain (name : String) (sup : Option ClassId) : Class where
  name := name
  kind := .ordinary
  loader := none
  accessFlags := 33
  super := sup
  interfaces := #[]
  cf := none
  fields := #[]
  methods := #[]
  instanceTypes := #[]
  staticTypes := #[]
  resolved := #[]
  callSites := []
  init := .initialized
  statics := none
  mirror := none

def pool0 : Array CpInfo := pool [(5, u "<init>"), (0, u "()V"), (1, .class_ 10), (1, u "java/lang/Object")] 113

def k0c0 : Code := { maxStack := 0, maxLocals := 1, code := object_method_1_code, exceptionTable := #[], attributes := #[] }
def k0m0 : Method := { name := "<init>", desc := "()V", sig := { parameters := [], returnType := none }, accessFlags := 1, code := some k0c0 }
/-- java/lang/Object -/
def k0 : Class := { plain "java/lang/Object" none with
  accessFlags := 33
  interfaces := #[]
  cf := some (fileOf pool0 8 #[] #[{ accessFlags := 1, nameIndex := 5, descriptorIndex := 6, attributes := #[] }] 33 0 #[] #[])
  fields := #[]
  methods := #[k0m0]
  instanceTypes := #[]
  staticTypes := #[]
  resolved := Array.replicate 124 none
  statics := none }

def pool1 : Array CpInfo := pool [(2, .class_ 4), (1, u "java/lang/Object"), (0, u "<init>"), (0, u "()V"), (0, .fieldref 8 9), (0, .class_ 10), (0, .nameAndType 11 12), (0, u "com/example/campo_grande/campogrande/SignatureAlgorithm"), (0, u "SHA256"), (0, u "Lcom/example/campo_grande/campogrande/SignatureAlgorithm;"), (0, .fieldref 8 14), (0, .nameAndType 15 12), (0, u "SHA1"), (0, .fieldref 8 17), (0, .nameAndType 18 12), (0, u "MD5"), (0, .methodref 20 21), (0, .class_ 22), (0, .nameAndType 23 24), (0, u "com/example/campo_grande/campogrande/ContentKeyEqualsPinLaw"), (0, u "hex"), (0, u "(I)C"), (0, .class_ 26), (0, u "java/lang/String"), (0, .methodref 25 28), (0, .nameAndType 5 29), (0, u "([C)V"), (0, .integer 2147483647), (0, .class_ 32), (0, u "com/example/campo_grande/campogrande/ContentKey"), (0, .methodref 20 34), (0, .nameAndType 35 36), (0, u "alg"), (0, u "(I)Lcom/example/campo_grande/campogrande/SignatureAlgorithm;"), (0, .methodref 20 38), (0, .nameAndType 39 40), (0, u "sig"), (0, u "(II)Ljava/lang/String;"), (0, .methodref 31 42), (0, .nameAndType 5 43), (0, u "(ILcom/example/campo_grande/campogrande/SignatureAlgorithm;Ljava/lang/String;I)V"), (0, .methodref 45 46), (0, .class_ 47), (0, .nameAndType 48 49), (0, u "java/lang/Integer"), (0, u "valueOf"), (0, u "(I)Ljava/lang/Integer;"), (0, .methodref 31 51), (0, .nameAndType 52 53), (0, u "equals"), (0, u "(Ljava/lang/Object;)Z"), (5, u "law"), (0, u "(IIIIII)Z")] 2

def k1m0 : Method := { name := "<init>", desc := "()V", sig := { parameters := [], returnType := none }, accessFlags := 1, code := none }
def k1c1 : Code := { maxStack := 2, maxLocals := 1, code := method_2_code, exceptionTable := #[], attributes := #[] }
def k1m1 : Method := { name := "alg", desc := "(I)Lcom/example/campo_grande/campogrande/SignatureAlgorithm;", sig := { parameters := [.int], returnType := some (.object "com/example/campo_grande/campogrande/SignatureAlgorithm") }, accessFlags := 10, code := some k1c1 }
def k1c2 : Code := { maxStack := 2, maxLocals := 2, code := method_3_code, exceptionTable := #[], attributes := #[] }
def k1m2 : Method := { name := "hex", desc := "(I)C", sig := { parameters := [.int], returnType := some .char }, accessFlags := 10, code := some k1c2 }
def k1c3 : Code := { maxStack := 4, maxLocals := 4, code := method_4_code, exceptionTable := #[], attributes := #[] }
def k1m3 : Method := { name := "sig", desc := "(II)Ljava/lang/String;", sig := { parameters := [.int, .int], returnType := some (.object "java/lang/String") }, accessFlags := 10, code := some k1c3 }
def k1c4 : Code := { maxStack := 6, maxLocals := 20, code := code, exceptionTable := #[], attributes := #[] }
def k1m4 : Method := { name := "law", desc := "(IIIIII)Z", sig := { parameters := [.int, .int, .int, .int, .int, .int], returnType := some .boolean }, accessFlags := 9, code := some k1c4 }
/-- com/example/campo_grande/campogrande/ContentKeyEqualsPinLaw -/
def k1 : Class := { plain "com/example/campo_grande/campogrande/ContentKeyEqualsPinLaw" (some 0) with
  accessFlags := 49
  interfaces := #[]
  cf := some (fileOf pool1 20 #[] #[{ accessFlags := 1, nameIndex := 5, descriptorIndex := 6, attributes := #[] }, { accessFlags := 10, nameIndex := 35, descriptorIndex := 36, attributes := #[] }, { accessFlags := 10, nameIndex := 23, descriptorIndex := 24, attributes := #[] }, { accessFlags := 10, nameIndex := 39, descriptorIndex := 40, attributes := #[] }, { accessFlags := 9, nameIndex := 59, descriptorIndex := 60, attributes := #[] }] 49 2 #[] #[])
  fields := #[]
  methods := #[k1m0, k1m1, k1m2, k1m3, k1m4]
  instanceTypes := #[]
  staticTypes := #[]
  resolved := Array.replicate 63 none
  statics := none }

def pool2 : Array CpInfo := pool [(1, .methodref 2 3), (0, .class_ 4), (0, .nameAndType 5 6), (0, u "java/lang/Object"), (0, u "<init>"), (0, u "()V"), (0, .string 8), (0, u "algorithm"), (0, .methodref 10 11), (0, .class_ 12), (0, .nameAndType 13 14), (0, u "java/util/Objects"), (0, u "requireNonNull"), (0, u "(Ljava/lang/Object;Ljava/lang/String;)Ljava/lang/Object;"), (0, .string 16), (0, u "signature"), (3, .class_ 22), (1, u "com/example/campo_grande/campogrande/ContentKey"), (2, .methodref 26 27), (0, .class_ 28), (0, .nameAndType 29 30), (0, u "com/example/campo_grande/campogrande/SignatureAlgorithm"), (0, u "isSignature"), (0, u "(Ljava/lang/String;)Z"), (5, .class_ 38), (1, u "java/lang/String"), (8, .fieldref 20 48), (0, .nameAndType 49 50), (0, u "volume"), (0, u "I"), (0, .fieldref 20 52), (0, .nameAndType 8 53), (0, u "Lcom/example/campo_grande/campogrande/SignatureAlgorithm;"), (0, .fieldref 20 55), (0, .nameAndType 16 56), (0, u "Ljava/lang/String;"), (0, .fieldref 20 58), (0, .nameAndType 59 50), (0, u "overflow"), (32, u "(ILcom/example/campo_grande/campogrande/SignatureAlgorithm;Ljava/lang/String;I)V"), (22, .methodref 36 116), (0, .nameAndType 117 118), (0, u "equals"), (0, u "(Ljava/lang/Object;)Z")] 57

def k2c0 : Code := { maxStack := 2, maxLocals := 5, code := prog_13_method_1_code, exceptionTable := #[], attributes := #[] }
def k2m0 : Method := { name := "<init>", desc := "(ILcom/example/campo_grande/campogrande/SignatureAlgorithm;Ljava/lang/String;I)V", sig := { parameters := [.int, (.object "com/example/campo_grande/campogrande/SignatureAlgorithm"), (.object "java/lang/String"), .int], returnType := none }, accessFlags := 1, code := some k2c0 }
def k2c1 : Code := { maxStack := 2, maxLocals := 3, code := prog_13_method_9_code, exceptionTable := #[], attributes := #[] }
def k2m1 : Method := { name := "equals", desc := "(Ljava/lang/Object;)Z", sig := { parameters := [(.object "java/lang/Object")], returnType := some .boolean }, accessFlags := 1, code := some k2c1 }
/-- com/example/campo_grande/campogrande/ContentKey -/
def k2 : Class := { plain "com/example/campo_grande/campogrande/ContentKey" (some 0) with
  accessFlags := 49
  interfaces := #[]
  cf := some (fileOf pool2 20 #[] #[{ accessFlags := 1, nameIndex := 5, descriptorIndex := 92, attributes := #[] }, { accessFlags := 1, nameIndex := 117, descriptorIndex := 118, attributes := #[] }] 49 2 #[] #[{ accessFlags := 18, nameIndex := 49, descriptorIndex := 50, attributes := #[] }, { accessFlags := 18, nameIndex := 8, descriptorIndex := 53, attributes := #[] }, { accessFlags := 18, nameIndex := 16, descriptorIndex := 56, attributes := #[] }, { accessFlags := 18, nameIndex := 59, descriptorIndex := 50, attributes := #[] }])
  fields := #[{ name := "volume", type := .int, accessFlags := 18, slot := 0, constantValue := 0 }, { name := "algorithm", type := (.object "com/example/campo_grande/campogrande/SignatureAlgorithm"), accessFlags := 18, slot := 1, constantValue := 0 }, { name := "signature", type := (.object "java/lang/String"), accessFlags := 18, slot := 2, constantValue := 0 }, { name := "overflow", type := .int, accessFlags := 18, slot := 3, constantValue := 0 }]
  methods := #[k2m0, k2m1]
  instanceTypes := #[.int, (.object "com/example/campo_grande/campogrande/SignatureAlgorithm"), (.object "java/lang/String"), .int]
  staticTypes := #[]
  resolved := Array.replicate 176 none
  statics := none }

def pool3 : Array CpInfo := pool [(1, .class_ 2), (0, u "java/lang/constant/Constable"), (0, .class_ 4), (0, u "java/lang/Object")] 6

/-- java/lang/constant/Constable -/
def k3 : Class := { plain "java/lang/constant/Constable" (some 0) with
  accessFlags := 1537
  interfaces := #[]
  cf := some (fileOf pool3 1 #[] #[] 1537 3 #[] #[])
  fields := #[]
  methods := #[]
  instanceTypes := #[]
  staticTypes := #[]
  resolved := Array.replicate 11 none
  statics := none }

def pool4 : Array CpInfo := pool [(1, .class_ 2), (0, u "java/lang/Comparable"), (0, .class_ 4), (0, u "java/lang/Object")] 7

/-- java/lang/Comparable -/
def k4 : Class := { plain "java/lang/Comparable" (some 0) with
  accessFlags := 1537
  interfaces := #[]
  cf := some (fileOf pool4 1 #[] #[] 1537 3 #[] #[])
  fields := #[]
  methods := #[]
  instanceTypes := #[]
  staticTypes := #[]
  resolved := Array.replicate 12 none
  statics := none }

def pool5 : Array CpInfo := pool [(1, .class_ 2), (0, u "java/io/Serializable"), (0, .class_ 4), (0, u "java/lang/Object")] 2

/-- java/io/Serializable -/
def k5 : Class := { plain "java/io/Serializable" (some 0) with
  accessFlags := 1537
  interfaces := #[]
  cf := some (fileOf pool5 1 #[] #[] 1537 3 #[] #[])
  fields := #[]
  methods := #[]
  instanceTypes := #[]
  staticTypes := #[]
  resolved := Array.replicate 7 none
  statics := none }

def pool6 : Array CpInfo := pool [(2, .class_ 4), (1, u "java/lang/Enum"), (0, u "name"), (0, u "Ljava/lang/String;"), (2, u "ordinal"), (0, u "I"), (1, .class_ 14), (1, u "java/lang/Object"), (4, u "hash"), (86, .class_ 108), (1, u "java/lang/Enum$EnumDesc"), (2, .class_ 112), (0, u "java/lang/constant/Constable"), (0, .class_ 114), (0, u "java/lang/Comparable"), (0, .class_ 116), (0, u "java/io/Serializable")] 87

/-- java/lang/Enum -/
def k6 : Class := { plain "java/lang/Enum" (some 0) with
  accessFlags := 1057
  interfaces := #[3, 4, 5]
  cf := some (fileOf pool6 2 #[.nestMembers #[106]] #[] 1057 12 #[111, 113, 115] #[{ accessFlags := 18, nameIndex := 5, descriptorIndex := 6, attributes := #[] }, { accessFlags := 18, nameIndex := 9, descriptorIndex := 10, attributes := #[] }, { accessFlags := 2, nameIndex := 19, descriptorIndex := 10, attributes := #[] }])
  fields := #[{ name := "name", type := (.object "java/lang/String"), accessFlags := 18, slot := 0, constantValue := 0 }, { name := "ordinal", type := .int, accessFlags := 18, slot := 1, constantValue := 0 }, { name := "hash", type := .int, accessFlags := 2, slot := 2, constantValue := 0 }]
  methods := #[]
  instanceTypes := #[(.object "java/lang/String"), .int, .int]
  staticTypes := #[]
  resolved := Array.replicate 204 none
  statics := none }

def pool7 : Array CpInfo := pool [(1, .class_ 2), (0, u "com/example/campo_grande/campogrande/SignatureAlgorithm"), (2, u "SHA256"), (0, u "Lcom/example/campo_grande/campogrande/SignatureAlgorithm;"), (2, u "SHA1"), (2, u "MD5"), (2, u "$VALUES"), (0, u "[Lcom/example/campo_grande/campogrande/SignatureAlgorithm;"), (6, .class_ 25), (1, u "java/lang/Enum"), (8, u "text"), (0, u "Ljava/lang/String;"), (2, u "javaName"), (0, .fieldref 1 40), (0, .nameAndType 41 42), (0, u "digestLength"), (0, u "I"), (5, .class_ 50), (1, u "java/lang/String"), (9, .methodref 48 61), (0, .nameAndType 62 63), (0, u "length"), (0, u "()I"), (0, .methodref 48 65), (0, .nameAndType 66 67), (0, u "charAt"), (0, u "(I)C"), (66, u "isSignature"), (0, u "(Ljava/lang/String;)Z")] 27

def k7c0 : Code := { maxStack := 3, maxLocals := 4, code := prog_25_method_6_code, exceptionTable := #[], attributes := #[] }
def k7m0 : Method := { name := "isSignature", desc := "(Ljava/lang/String;)Z", sig := { parameters := [(.object "java/lang/String")], returnType := some .boolean }, accessFlags := 1, code := some k7c0 }
/-- com/example/campo_grande/campogrande/SignatureAlgorithm -/
def k7 : Class := { plain "com/example/campo_grande/campogrande/SignatureAlgorithm" (some 6) with
  accessFlags := 16433
  interfaces := #[]
  cf := some (fileOf pool7 1 #[] #[{ accessFlags := 1, nameIndex := 134, descriptorIndex := 135, attributes := #[] }] 16433 23 #[] #[{ accessFlags := 16409, nameIndex := 5, descriptorIndex := 6, attributes := #[] }, { accessFlags := 16409, nameIndex := 9, descriptorIndex := 6, attributes := #[] }, { accessFlags := 16409, nameIndex := 12, descriptorIndex := 6, attributes := #[] }, { accessFlags := 18, nameIndex := 34, descriptorIndex := 35, attributes := #[] }, { accessFlags := 18, nameIndex := 38, descriptorIndex := 35, attributes := #[] }, { accessFlags := 18, nameIndex := 41, descriptorIndex := 42, attributes := #[] }, { accessFlags := 4122, nameIndex := 15, descriptorIndex := 16, attributes := #[] }])
  fields := #[{ name := "SHA256", type := (.object "com/example/campo_grande/campogrande/SignatureAlgorithm"), accessFlags := 16409, slot := 0, constantValue := 0 }, { name := "SHA1", type := (.object "com/example/campo_grande/campogrande/SignatureAlgorithm"), accessFlags := 16409, slot := 1, constantValue := 0 }, { name := "MD5", type := (.object "com/example/campo_grande/campogrande/SignatureAlgorithm"), accessFlags := 16409, slot := 2, constantValue := 0 }, { name := "text", type := (.object "java/lang/String"), accessFlags := 18, slot := 3, constantValue := 0 }, { name := "javaName", type := (.object "java/lang/String"), accessFlags := 18, slot := 4, constantValue := 0 }, { name := "digestLength", type := .int, accessFlags := 18, slot := 5, constantValue := 0 }, { name := "$VALUES", type := (.array (.object "com/example/campo_grande/campogrande/SignatureAlgorithm")), accessFlags := 4122, slot := 3, constantValue := 0 }]
  methods := #[k7m0]
  instanceTypes := #[(.object "java/lang/String"), .int, .int, (.object "java/lang/String"), (.object "java/lang/String"), .int]
  staticTypes := #[(.object "com/example/campo_grande/campogrande/SignatureAlgorithm"), (.object "com/example/campo_grande/campogrande/SignatureAlgorithm"), (.object "com/example/campo_grande/campogrande/SignatureAlgorithm"), (.array (.object "com/example/campo_grande/campogrande/SignatureAlgorithm"))]
  resolved := Array.replicate 163 none
  statics := some 0 }

def pool8 : Array CpInfo := pool [(2, .class_ 4), (1, u "java/lang/CharSequence"), (42, .class_ 48), (0, u "java/lang/CharSequence$1CodePointIterator"), (10, .class_ 60), (0, u "java/lang/CharSequence$1CharIterator"), (5, .class_ 67), (0, u "java/lang/Object")] 63

/-- java/lang/CharSequence -/
def k8 : Class := { plain "java/lang/CharSequence" (some 0) with
  accessFlags := 1537
  interfaces := #[]
  cf := some (fileOf pool8 2 #[.nestMembers #[47, 59]] #[] 1537 66 #[] #[])
  fields := #[]
  methods := #[]
  instanceTypes := #[]
  staticTypes := #[]
  resolved := Array.replicate 131 none
  statics := none }

def pool9 : Array CpInfo := pool [(1, .class_ 2), (0, u "java/lang/constant/ConstantDesc"), (0, .class_ 4), (0, u "java/lang/Object")] 32

/-- java/lang/constant/ConstantDesc -/
def k9 : Class := { plain "java/lang/constant/ConstantDesc" (some 0) with
  accessFlags := 1537
  interfaces := #[]
  cf := some (fileOf pool9 1 #[] #[] 1537 3 #[] #[])
  fields := #[]
  methods := #[]
  instanceTypes := #[]
  staticTypes := #[]
  resolved := Array.replicate 37 none
  statics := none }

def pool10 : Array CpInfo := pool [(1, .methodref 2 3), (0, .class_ 4), (0, .nameAndType 5 6), (0, u "java/lang/Object"), (0, u "<init>"), (0, u "()V"), (2, .fieldref 10 11), (0, .class_ 12), (0, .nameAndType 13 14), (0, u "java/lang/String"), (0, u "value"), (0, u "[B"), (0, .fieldref 10 16), (0, .nameAndType 17 18), (0, u "coder"), (0, u "B"), (2, u "hash"), (0, u "I"), (2, u "hashIsZero"), (0, u "Z"), (0, .methodref 10 28), (0, .nameAndType 5 29), (0, u "([CIILjava/lang/Void;)V"), (8, .fieldref 10 39), (0, .nameAndType 40 26), (0, u "COMPACT_STRINGS"), (1, .class_ 44), (1, u "java/lang/StringUTF16"), (0, u "compress"), (1, .methodref 42 48), (0, .nameAndType 49 50), (0, u "coderFromArrayLen"), (0, u "([BI)B"), (56, .class_ 109), (1, u "java/lang/StringLatin1"), (32, u "()Z"), (34, .methodref 42 178), (0, .nameAndType 45 179), (0, u "([CII)[B"), (154, u "()I"), (0, .methodref 10 336), (0, .nameAndType 17 337), (0, u "()B"), (25, u "([BI)C"), (27, u "(II)V"), (35, u "(I)C"), (64, .methodref 10 493), (0, .nameAndType 494 142), (0, u "isLatin1"), (0, .methodref 107 496), (0, .nameAndType 497 363), (0, u "charAt"), (3, u "checkIndex"), (5, u "length"), (33, .methodref 107 542), (0, .nameAndType 543 544), (0, u "equals"), (0, u "([B[B)Z"), (28, u "(Ljava/lang/Object;)Z"), (1, .class_ 576), (0, u "java/lang/CharSequence"), (22, u "CASE_INSENSITIVE_ORDER"), (0, u "Ljava/util/Comparator;"), (409, u "([C)V"), (42, .fieldref 1054 1055), (0, .class_ 1056), (0, .nameAndType 1057 1058), (0, u "jdk/internal/util/Preconditions"), (0, u "SIOOBE_FORMATTER"), (0, u "Ljava/util/function/BiFunction;"), (0, .methodref 1054 1060), (0, .nameAndType 501 1061), (0, u "(IILjava/util/function/BiFunction;)I"), (39, u "serialPersistentFields"), (0, u "[Ljava/io/ObjectStreamField;"), (0, .class_ 1104), (0, u "java/lang/String$CaseInsensitiveComparator"), (1, .class_ 1107), (0, u "java/io/Serializable"), (0, .class_ 1109), (0, u "java/lang/Comparable"), (0, .class_ 1111), (0, u "java/lang/constant/Constable"), (0, .class_ 1113), (0, u "java/lang/constant/ConstantDesc"), (2, u "serialVersionUID"), (0, u "J"), (3, u "REPL"), (0, u "C"), (2, u "LATIN1"), (1, u "UTF16")] 323

def k10m0 : Method := { name := "<init>", desc := "()V", sig := { parameters := [], returnType := none }, accessFlags := 1, code := none }
def k10c1 : Code := { maxStack := 5, maxLocals := 2, code := jdk_42_method_3_code, exceptionTable := #[], attributes := #[] }
def k10m1 : Method := { name := "<init>", desc := "([C)V", sig := { parameters := [(.array .char)], returnType := none }, accessFlags := 1, code := some k10c1 }
def k10c2 : Code := { maxStack := 2, maxLocals := 1, code := jdk_42_method_54_code, exceptionTable := #[], attributes := #[] }
def k10m2 : Method := { name := "length", desc := "()I", sig := { parameters := [], returnType := some .int }, accessFlags := 1, code := some k10c2 }
def k10c3 : Code := { maxStack := 2, maxLocals := 2, code := jdk_42_method_56_code, exceptionTable := #[], attributes := #[] }
def k10m3 : Method := { name := "charAt", desc := "(I)C", sig := { parameters := [.int], returnType := some .char }, accessFlags := 1, code := some k10c3 }
def k10c4 : Code := { maxStack := 2, maxLocals := 3, code := jdk_42_method_66_code, exceptionTable := #[], attributes := #[] }
def k10m4 : Method := { name := "equals", desc := "(Ljava/lang/Object;)Z", sig := { parameters := [(.object "java/lang/Object")], returnType := some .boolean }, accessFlags := 1, code := some k10c4 }
def k10c5 : Code := { maxStack := 4, maxLocals := 6, code := jdk_42_method_149_code, exceptionTable := #[], attributes := #[] }
def k10m5 : Method := { name := "<init>", desc := "([CIILjava/lang/Void;)V", sig := { parameters := [(.array .char), .int, .int, (.object "java/lang/Void")], returnType := none }, accessFlags := 2, code := some k10c5 }
def k10c6 : Code := { maxStack := 1, maxLocals := 1, code := jdk_42_method_152_code, exceptionTable := #[], attributes := #[] }
def k10m6 : Method := { name := "coder", desc := "()B", sig := { parameters := [], returnType := some .byte }, accessFlags := 0, code := some k10c6 }
def k10c7 : Code := { maxStack := 1, maxLocals := 1, code := jdk_42_method_154_code, exceptionTable := #[], attributes := #[] }
def k10m7 : Method := { name := "isLatin1", desc := "()Z", sig := { parameters := [], returnType := some .boolean }, accessFlags := 0, code := some k10c7 }
def k10c8 : Code := { maxStack := 3, maxLocals := 2, code := jdk_42_method_155_code, exceptionTable := #[], attributes := #[] }
def k10m8 : Method := { name := "checkIndex", desc := "(II)V", sig := { parameters := [.int, .int], returnType := none }, accessFlags := 8, code := some k10c8 }
/-- java/lang/String -/
def k10 : Class := { plain "java/lang/String" (some 0) with
  accessFlags := 49
  interfaces := #[5, 4, 8, 3, 9]
  cf := some (fileOf pool10 10 #[.nestMembers #[1103]] #[{ accessFlags := 1, nameIndex := 5, descriptorIndex := 6, attributes := #[] }, { accessFlags := 1, nameIndex := 5, descriptorIndex := 1010, attributes := #[] }, { accessFlags := 1, nameIndex := 507, descriptorIndex := 334, attributes := #[] }, { accessFlags := 1, nameIndex := 497, descriptorIndex := 427, attributes := #[] }, { accessFlags := 1, nameIndex := 543, descriptorIndex := 573, attributes := #[] }, { accessFlags := 2, nameIndex := 5, descriptorIndex := 29, attributes := #[] }, { accessFlags := 0, nameIndex := 17, descriptorIndex := 337, attributes := #[] }, { accessFlags := 0, nameIndex := 494, descriptorIndex := 142, attributes := #[] }, { accessFlags := 8, nameIndex := 501, descriptorIndex := 391, attributes := #[] }] 49 2 #[1106, 1108, 575, 1110, 1112] #[{ accessFlags := 18, nameIndex := 13, descriptorIndex := 14, attributes := #[] }, { accessFlags := 18, nameIndex := 17, descriptorIndex := 18, attributes := #[] }, { accessFlags := 2, nameIndex := 21, descriptorIndex := 22, attributes := #[] }, { accessFlags := 2, nameIndex := 25, descriptorIndex := 26, attributes := #[] }, { accessFlags := 26, nameIndex := 1116, descriptorIndex := 1117, attributes := #[] }, { accessFlags := 24, nameIndex := 40, descriptorIndex := 26, attributes := #[] }, { accessFlags := 26, nameIndex := 1101, descriptorIndex := 1102, attributes := #[] }, { accessFlags := 26, nameIndex := 1121, descriptorIndex := 1122, attributes := #[] }, { accessFlags := 25, nameIndex := 599, descriptorIndex := 600, attributes := #[] }, { accessFlags := 24, nameIndex := 1125, descriptorIndex := 18, attributes := #[] }, { accessFlags := 24, nameIndex := 1127, descriptorIndex := 18, attributes := #[] }])
  fields := #[{ name := "value", type := (.array .byte), accessFlags := 18, slot := 0, constantValue := 0 }, { name := "coder", type := .byte, accessFlags := 18, slot := 1, constantValue := 0 }, { name := "hash", type := .int, accessFlags := 2, slot := 2, constantValue := 0 }, { name := "hashIsZero", type := .boolean, accessFlags := 2, slot := 3, constantValue := 0 }, { name := "serialVersionUID", type := .long, accessFlags := 26, slot := 0, constantValue := 0 }, { name := "COMPACT_STRINGS", type := .boolean, accessFlags := 24, slot := 1, constantValue := 0 }, { name := "serialPersistentFields", type := (.array (.object "java/io/ObjectStreamField")), accessFlags := 26, slot := 2, constantValue := 0 }, { name := "REPL", type := .char, accessFlags := 26, slot := 3, constantValue := 0 }, { name := "CASE_INSENSITIVE_ORDER", type := (.object "java/util/Comparator"), accessFlags := 25, slot := 4, constantValue := 0 }, { name := "LATIN1", type := .byte, accessFlags := 24, slot := 5, constantValue := 0 }, { name := "UTF16", type := .byte, accessFlags := 24, slot := 6, constantValue := 0 }]
  methods := #[k10m0, k10m1, k10m2, k10m3, k10m4, k10m5, k10m6, k10m7, k10m8]
  instanceTypes := #[(.array .byte), .byte, .int, .boolean]
  staticTypes := #[.long, .boolean, (.array (.object "java/io/ObjectStreamField")), .char, (.object "java/util/Comparator"), .byte, .byte]
  resolved := Array.replicate 1451 none
  statics := some 1 }

def pool11 : Array CpInfo := pool [(6, .class_ 8), (1, u "java/lang/Object"), (0, u "<init>"), (0, u "()V"), (1, .class_ 14), (1, u "java/lang/StringUTF16"), (31, u "$assertionsDisabled"), (0, u "Z"), (13, u "HI_BYTE_SHIFT"), (0, u "I"), (2, u "LO_BYTE_SHIFT"), (49, .methodref 12 116), (0, .nameAndType 117 118), (0, u "compress"), (0, u "([CI[BII)I"), (3, u "([CII)[B"), (138, u "coderFromArrayLen"), (0, u "([BI)B"), (106, .class_ 371), (1, u "java/lang/StringUTF16$LinesSpliterator"), (58, u "MAX_LENGTH"), (196, .class_ 628), (0, u "java/lang/StringUTF16$CodePointsSpliterator"), (0, .class_ 630), (0, u "java/lang/StringUTF16$CharsSpliterator")] 4

def k11m0 : Method := { name := "<init>", desc := "()V", sig := { parameters := [], returnType := none }, accessFlags := 0, code := none }
def k11c1 : Code := { maxStack := 2, maxLocals := 2, code := jdk_52_method_15_code, exceptionTable := #[], attributes := #[] }
def k11m1 : Method := { name := "coderFromArrayLen", desc := "([BI)B", sig := { parameters := [(.array .byte), .int], returnType := some .byte }, accessFlags := 8, code := some k11c1 }
def k11c2 : Code := { maxStack := 5, maxLocals := 6, code := jdk_52_method_16_code, exceptionTable := #[], attributes := #[] }
def k11m2 : Method := { name := "compress", desc := "([CII)[B", sig := { parameters := [(.array .char), .int, .int], returnType := some (.array .byte) }, accessFlags := 9, code := some k11c2 }
def k11c3 : Code := { maxStack := 3, maxLocals := 7, code := jdk_52_method_21_code, exceptionTable := #[], attributes := #[] }
def k11m3 : Method := { name := "compress", desc := "([CI[BII)I", sig := { parameters := [(.array .char), .int, (.array .byte), .int, .int], returnType := some .int }, accessFlags := 9, code := some k11c3 }
/-- java/lang/StringUTF16 -/
def k11 : Class := { plain "java/lang/StringUTF16" (some 0) with
  accessFlags := 48
  interfaces := #[]
  cf := some (fileOf pool11 12 #[.nestMembers #[627, 629, 369]] #[{ accessFlags := 0, nameIndex := 9, descriptorIndex := 10, attributes := #[] }, { accessFlags := 8, nameIndex := 261, descriptorIndex := 262, attributes := #[] }, { accessFlags := 9, nameIndex := 117, descriptorIndex := 122, attributes := #[] }, { accessFlags := 9, nameIndex := 117, descriptorIndex := 118, attributes := #[] }] 48 6 #[] #[{ accessFlags := 26, nameIndex := 61, descriptorIndex := 62, attributes := #[] }, { accessFlags := 26, nameIndex := 65, descriptorIndex := 62, attributes := #[] }, { accessFlags := 24, nameIndex := 430, descriptorIndex := 62, attributes := #[] }, { accessFlags := 4120, nameIndex := 46, descriptorIndex := 47, attributes := #[] }])
  fields := #[{ name := "HI_BYTE_SHIFT", type := .int, accessFlags := 26, slot := 0, constantValue := 0 }, { name := "LO_BYTE_SHIFT", type := .int, accessFlags := 26, slot := 1, constantValue := 0 }, { name := "MAX_LENGTH", type := .int, accessFlags := 24, slot := 2, constantValue := 0 }, { name := "$assertionsDisabled", type := .boolean, accessFlags := 4120, slot := 3, constantValue := 0 }]
  methods := #[k11m0, k11m1, k11m2, k11m3]
  instanceTypes := #[]
  staticTypes := #[.int, .int, .int, .boolean]
  resolved := Array.replicate 635 none
  statics := none }

def pool12 : Array CpInfo := pool [(2, .class_ 4), (1, u "java/lang/Object"), (0, u "<init>"), (0, u "()V"), (35, .class_ 44), (1, u "java/util/Objects"), (0, u "requireNonNull"), (48, u "(Ljava/lang/Object;Ljava/lang/String;)Ljava/lang/Object;")] 89

def k12m0 : Method := { name := "<init>", desc := "()V", sig := { parameters := [], returnType := none }, accessFlags := 2, code := none }
def k12c1 : Code := { maxStack := 3, maxLocals := 2, code := jdk_31_method_11_code, exceptionTable := #[], attributes := #[] }
def k12m1 : Method := { name := "requireNonNull", desc := "(Ljava/lang/Object;Ljava/lang/String;)Ljava/lang/Object;", sig := { parameters := [(.object "java/lang/Object"), (.object "java/lang/String")], returnType := some (.object "java/lang/Object") }, accessFlags := 9, code := some k12c1 }
/-- java/util/Objects -/
def k12 : Class := { plain "java/util/Objects" (some 0) with
  accessFlags := 49
  interfaces := #[]
  cf := some (fileOf pool12 42 #[] #[{ accessFlags := 2, nameIndex := 5, descriptorIndex := 6, attributes := #[] }, { accessFlags := 9, nameIndex := 45, descriptorIndex := 94, attributes := #[] }] 49 2 #[] #[])
  fields := #[]
  methods := #[k12m0, k12m1]
  instanceTypes := #[]
  staticTypes := #[]
  resolved := Array.replicate 184 none
  statics := none }

def pool13 : Array CpInfo := pool [(1, .class_ 2), (0, u "java/lang/String"), (1, .class_ 6), (1, u "java/lang/Object"), (0, u "<init>"), (0, u "()V"), (0, .methodref 1 10), (0, .nameAndType 11 12), (0, u "checkIndex"), (0, u "(II)V"), (1, .class_ 16), (1, u "java/lang/StringLatin1"), (36, u "([BI)C"), (67, u "$assertionsDisabled"), (0, u "Z"), (98, .class_ 223), (1, u "java/lang/StringLatin1$LinesSpliterator"), (28, u "charAt"), (28, u "equals"), (0, u "([B[B)Z"), (107, .class_ 391), (0, u "java/lang/StringLatin1$CharsSpliterator")] 3

def k13m0 : Method := { name := "<init>", desc := "()V", sig := { parameters := [], returnType := none }, accessFlags := 0, code := none }
def k13c1 : Code := { maxStack := 2, maxLocals := 2, code := jdk_43_method_2_code, exceptionTable := #[], attributes := #[] }
def k13m1 : Method := { name := "charAt", desc := "([BI)C", sig := { parameters := [(.array .byte), .int], returnType := some .char }, accessFlags := 9, code := some k13c1 }
def k13c2 : Code := { maxStack := 3, maxLocals := 3, code := jdk_43_method_13_code, exceptionTable := #[], attributes := #[] }
def k13m2 : Method := { name := "equals", desc := "([B[B)Z", sig := { parameters := [(.array .byte), (.array .byte)], returnType := some .boolean }, accessFlags := 9, code := some k13c2 }
/-- java/lang/StringLatin1 -/
def k13 : Class := { plain "java/lang/StringLatin1" (some 0) with
  accessFlags := 48
  interfaces := #[]
  cf := some (fileOf pool13 14 #[.nestMembers #[390, 221]] #[{ accessFlags := 0, nameIndex := 7, descriptorIndex := 8, attributes := #[] }, { accessFlags := 9, nameIndex := 252, descriptorIndex := 53, attributes := #[] }, { accessFlags := 9, nameIndex := 281, descriptorIndex := 282, attributes := #[] }] 48 4 #[] #[{ accessFlags := 4120, nameIndex := 121, descriptorIndex := 122, attributes := #[] }])
  fields := #[{ name := "$assertionsDisabled", type := .boolean, accessFlags := 4120, slot := 0, constantValue := 0 }]
  methods := #[k13m0, k13m1, k13m2]
  instanceTypes := #[]
  staticTypes := #[.boolean]
  resolved := Array.replicate 395 none
  statics := none }

def pool14 : Array CpInfo := pool [(2, .class_ 4), (1, u "java/lang/Object"), (0, u "<init>"), (0, u "()V"), (17, .class_ 26), (1, u "jdk/internal/util/Preconditions"), (6, u "checkIndex"), (21, .class_ 56), (0, u "jdk/internal/util/Preconditions$4"), (57, .class_ 115), (0, u "jdk/internal/util/Preconditions$1"), (7, u "SIOOBE_FORMATTER"), (0, u "Ljava/util/function/BiFunction;"), (0, .class_ 126), (0, u "jdk/internal/util/Preconditions$2"), (3, u "AIOOBE_FORMATTER"), (0, .class_ 132), (0, u "jdk/internal/util/Preconditions$3"), (3, u "IOOBE_FORMATTER"), (41, u "(IILjava/util/function/BiFunction;)I")] 15

def k14m0 : Method := { name := "<init>", desc := "()V", sig := { parameters := [], returnType := none }, accessFlags := 1, code := none }
def k14c1 : Code := { maxStack := 3, maxLocals := 3, code := jdk_41_method_11_code, exceptionTable := #[], attributes := #[] }
def k14m1 : Method := { name := "checkIndex", desc := "(IILjava/util/function/BiFunction;)I", sig := { parameters := [.int, .int, (.object "java/util/function/BiFunction")], returnType := some .int }, accessFlags := 9, code := some k14c1 }
/-- jdk/internal/util/Preconditions -/
def k14 : Class := { plain "jdk/internal/util/Preconditions" (some 0) with
  accessFlags := 33
  interfaces := #[]
  cf := some (fileOf pool14 24 #[.nestMembers #[55, 131, 125, 114]] #[{ accessFlags := 1, nameIndex := 5, descriptorIndex := 6, attributes := #[] }, { accessFlags := 9, nameIndex := 33, descriptorIndex := 178, attributes := #[] }] 33 2 #[] #[{ accessFlags := 25, nameIndex := 123, descriptorIndex := 124, attributes := #[] }, { accessFlags := 25, nameIndex := 130, descriptorIndex := 124, attributes := #[] }, { accessFlags := 25, nameIndex := 136, descriptorIndex := 124, attributes := #[] }])
  fields := #[{ name := "SIOOBE_FORMATTER", type := (.object "java/util/function/BiFunction"), accessFlags := 25, slot := 0, constantValue := 0 }, { name := "AIOOBE_FORMATTER", type := (.object "java/util/function/BiFunction"), accessFlags := 25, slot := 1, constantValue := 0 }, { name := "IOOBE_FORMATTER", type := (.object "java/util/function/BiFunction"), accessFlags := 25, slot := 2, constantValue := 0 }]
  methods := #[k14m0, k14m1]
  instanceTypes := #[]
  staticTypes := #[(.object "java/util/function/BiFunction"), (.object "java/util/function/BiFunction"), (.object "java/util/function/BiFunction")]
  resolved := Array.replicate 194 none
  statics := some 2 }

def pool15 : Array CpInfo := pool [(1, .methodref 2 3), (0, .class_ 4), (0, .nameAndType 5 6), (0, u "java/lang/Object"), (0, u "<init>"), (0, u "()V"), (1, .class_ 10), (1, u "java/lang/Number"), (2, .class_ 14), (0, u "java/io/Serializable"), (0, u "serialVersionUID"), (0, u "J")] 20

def k15c0 : Code := { maxStack := 1, maxLocals := 1, code := jdk_18_method_1_code, exceptionTable := #[], attributes := #[] }
def k15m0 : Method := { name := "<init>", desc := "()V", sig := { parameters := [], returnType := none }, accessFlags := 1, code := some k15c0 }
/-- java/lang/Number -/
def k15 : Class := { plain "java/lang/Number" (some 0) with
  accessFlags := 1057
  interfaces := #[5]
  cf := some (fileOf pool15 8 #[] #[{ accessFlags := 1, nameIndex := 5, descriptorIndex := 6, attributes := #[] }] 1057 2 #[13] #[{ accessFlags := 26, nameIndex := 15, descriptorIndex := 16, attributes := #[] }])
  fields := #[{ name := "serialVersionUID", type := .long, accessFlags := 26, slot := 0, constantValue := 0 }]
  methods := #[k15m0]
  instanceTypes := #[]
  staticTypes := #[.long]
  resolved := Array.replicate 37 none
  statics := none }

def pool16 : Array CpInfo := pool [(1, .class_ 2), (0, u "java/lang/Integer"), (16, u "digits"), (0, u "[C"), (46, u "<init>"), (17, u "DigitOnes"), (0, u "[B"), (2, u "DigitTens"), (10, .nameAndType 67 101), (0, u "()V"), (85, u "valueOf"), (0, u "(I)Ljava/lang/Integer;"), (0, .class_ 190), (0, u "java/lang/Integer$IntegerCache"), (0, .fieldref 189 192), (0, .nameAndType 193 194), (0, u "high"), (0, u "I"), (0, .fieldref 189 196), (0, .nameAndType 197 198), (0, u "cache"), (0, u "[Ljava/lang/Integer;"), (0, .methodref 1 200), (0, .nameAndType 67 201), (0, u "(I)V"), (0, .methodref 203 100), (0, .class_ 204), (0, u "java/lang/Number"), (0, .fieldref 1 206), (0, .nameAndType 207 194), (0, u "value"), (94, u "TYPE"), (0, u "Ljava/lang/Class;"), (0, .class_ 305), (0, u "java/lang/Comparable"), (0, .class_ 307), (0, u "java/lang/constant/Constable"), (0, .class_ 309), (0, u "java/lang/constant/ConstantDesc"), (0, u "MIN_VALUE"), (1, u "MAX_VALUE"), (3, u "SIZE"), (1, u "BYTES"), (1, u "serialVersionUID"), (0, u "J")] 131

def k16c0 : Code := { maxStack := 3, maxLocals := 1, code := jdk_33_method_22_code, exceptionTable := #[], attributes := #[] }
def k16m0 : Method := { name := "valueOf", desc := "(I)Ljava/lang/Integer;", sig := { parameters := [.int], returnType := some (.object "java/lang/Integer") }, accessFlags := 9, code := some k16c0 }
def k16c1 : Code := { maxStack := 2, maxLocals := 2, code := jdk_33_method_23_code, exceptionTable := #[], attributes := #[] }
def k16m1 : Method := { name := "<init>", desc := "(I)V", sig := { parameters := [.int], returnType := none }, accessFlags := 1, code := some k16c1 }
/-- java/lang/Integer -/
def k16 : Class := { plain "java/lang/Integer" (some 15) with
  accessFlags := 49
  interfaces := #[4, 3, 9]
  cf := some (fileOf pool16 1 #[.nestMembers #[189]] #[{ accessFlags := 9, nameIndex := 187, descriptorIndex := 188, attributes := #[] }, { accessFlags := 1, nameIndex := 67, descriptorIndex := 201, attributes := #[] }] 49 203 #[304, 306, 308] #[{ accessFlags := 25, nameIndex := 310, descriptorIndex := 194, attributes := #[] }, { accessFlags := 25, nameIndex := 312, descriptorIndex := 194, attributes := #[] }, { accessFlags := 25, nameIndex := 302, descriptorIndex := 303, attributes := #[] }, { accessFlags := 24, nameIndex := 19, descriptorIndex := 20, attributes := #[] }, { accessFlags := 24, nameIndex := 89, descriptorIndex := 86, attributes := #[] }, { accessFlags := 24, nameIndex := 85, descriptorIndex := 86, attributes := #[] }, { accessFlags := 18, nameIndex := 207, descriptorIndex := 194, attributes := #[] }, { accessFlags := 25, nameIndex := 316, descriptorIndex := 194, attributes := #[] }, { accessFlags := 25, nameIndex := 318, descriptorIndex := 194, attributes := #[] }, { accessFlags := 26, nameIndex := 320, descriptorIndex := 321, attributes := #[] }])
  fields := #[{ name := "MIN_VALUE", type := .int, accessFlags := 25, slot := 0, constantValue := 0 }, { name := "MAX_VALUE", type := .int, accessFlags := 25, slot := 1, constantValue := 0 }, { name := "TYPE", type := (.object "java/lang/Class"), accessFlags := 25, slot := 2, constantValue := 0 }, { name := "digits", type := (.array .char), accessFlags := 24, slot := 3, constantValue := 0 }, { name := "DigitTens", type := (.array .byte), accessFlags := 24, slot := 4, constantValue := 0 }, { name := "DigitOnes", type := (.array .byte), accessFlags := 24, slot := 5, constantValue := 0 }, { name := "value", type := .int, accessFlags := 18, slot := 0, constantValue := 0 }, { name := "SIZE", type := .int, accessFlags := 25, slot := 6, constantValue := 0 }, { name := "BYTES", type := .int, accessFlags := 25, slot := 7, constantValue := 0 }, { name := "serialVersionUID", type := .long, accessFlags := 26, slot := 8, constantValue := 0 }]
  methods := #[k16m0, k16m1]
  instanceTypes := #[.int]
  staticTypes := #[.int, .int, (.object "java/lang/Class"), (.array .char), (.array .byte), (.array .byte), .int, .int, .long]
  resolved := Array.replicate 453 none
  statics := none }

def pool17 : Array CpInfo := pool [(2, .class_ 4), (1, u "java/lang/Object"), (0, u "<init>"), (0, u "()V"), (0, .class_ 8), (0, u "java/lang/Integer"), (7, .class_ 18), (1, u "java/lang/Integer$IntegerCache"), (0, u "$assertionsDisabled"), (0, u "Z"), (26, u "high"), (0, u "I"), (8, u "archivedCache"), (0, u "[Ljava/lang/Integer;"), (12, u "cache"), (0, u "low")] 27

def k17m0 : Method := { name := "<init>", desc := "()V", sig := { parameters := [], returnType := none }, accessFlags := 2, code := none }
/-- java/lang/Integer$IntegerCache -/
def k17 : Class := { plain "java/lang/Integer$IntegerCache" (some 0) with
  accessFlags := 48
  interfaces := #[]
  cf := some (fileOf pool17 16 #[.nestHost 7] #[{ accessFlags := 2, nameIndex := 5, descriptorIndex := 6, attributes := #[] }] 48 2 #[] #[{ accessFlags := 24, nameIndex := 72, descriptorIndex := 48, attributes := #[] }, { accessFlags := 24, nameIndex := 47, descriptorIndex := 48, attributes := #[] }, { accessFlags := 24, nameIndex := 71, descriptorIndex := 58, attributes := #[] }, { accessFlags := 8, nameIndex := 57, descriptorIndex := 58, attributes := #[] }, { accessFlags := 4120, nameIndex := 19, descriptorIndex := 20, attributes := #[] }])
  fields := #[{ name := "low", type := .int, accessFlags := 24, slot := 0, constantValue := 0 }, { name := "high", type := .int, accessFlags := 24, slot := 1, constantValue := 0 }, { name := "cache", type := (.array (.object "java/lang/Integer")), accessFlags := 24, slot := 2, constantValue := 0 }, { name := "archivedCache", type := (.array (.object "java/lang/Integer")), accessFlags := 8, slot := 3, constantValue := 0 }, { name := "$assertionsDisabled", type := .boolean, accessFlags := 4120, slot := 4, constantValue := 0 }]
  methods := #[k17m0]
  instanceTypes := #[]
  staticTypes := #[.int, .int, (.array (.object "java/lang/Integer")), (.array (.object "java/lang/Integer")), .boolean]
  resolved := Array.replicate 100 none
  statics := some 3 }

def pool18 : Array CpInfo := pool [(9, u "<init>"), (6, .class_ 18), (1, u "java/lang/Object"), (0, u "()V"), (1, .class_ 23), (1, u "jdk/internal/util/ArraysSupport"), (0, u "LOG2_ARRAY_LONG_INDEX_SCALE"), (0, u "I"), (2, u "U"), (0, u "Ljdk/internal/misc/Unsafe;"), (8, u "BIG_ENDIAN"), (0, u "Z"), (8, u "LOG2_BYTE_BIT_SIZE"), (4, u "LOG2_ARRAY_INT_INDEX_SCALE"), (54, u "JLA"), (0, u "Ljdk/internal/access/JavaLangAccess;"), (11, u "LOG2_ARRAY_BOOLEAN_INDEX_SCALE"), (9, u "LOG2_ARRAY_BYTE_INDEX_SCALE"), (5, u "LOG2_ARRAY_CHAR_INDEX_SCALE"), (5, u "LOG2_ARRAY_SHORT_INDEX_SCALE"), (18, u "LOG2_ARRAY_FLOAT_INDEX_SCALE"), (24, u "LOG2_ARRAY_DOUBLE_INDEX_SCALE"), (89, u "T_BOOLEAN"), (2, u "T_CHAR"), (1, u "T_FLOAT"), (1, u "T_DOUBLE"), (1, u "T_BYTE"), (1, u "T_SHORT"), (1, u "T_INT"), (1, u "T_LONG"), (1, u "SOFT_MAX_ARRAY_LENGTH")] 83

def k18m0 : Method := { name := "<init>", desc := "()V", sig := { parameters := [], returnType := none }, accessFlags := 2, code := none }
/-- jdk/internal/util/ArraysSupport -/
def k18 : Class := { plain "jdk/internal/util/ArraysSupport" (some 0) with
  accessFlags := 33
  interfaces := #[]
  cf := some (fileOf pool18 21 #[] #[{ accessFlags := 2, nameIndex := 9, descriptorIndex := 19, attributes := #[] }] 33 16 #[] #[{ accessFlags := 24, nameIndex := 28, descriptorIndex := 29, attributes := #[] }, { accessFlags := 26, nameIndex := 38, descriptorIndex := 39, attributes := #[] }, { accessFlags := 25, nameIndex := 121, descriptorIndex := 25, attributes := #[] }, { accessFlags := 25, nameIndex := 131, descriptorIndex := 25, attributes := #[] }, { accessFlags := 25, nameIndex := 137, descriptorIndex := 25, attributes := #[] }, { accessFlags := 25, nameIndex := 143, descriptorIndex := 25, attributes := #[] }, { accessFlags := 25, nameIndex := 53, descriptorIndex := 25, attributes := #[] }, { accessFlags := 25, nameIndex := 24, descriptorIndex := 25, attributes := #[] }, { accessFlags := 25, nameIndex := 162, descriptorIndex := 25, attributes := #[] }, { accessFlags := 25, nameIndex := 187, descriptorIndex := 25, attributes := #[] }, { accessFlags := 26, nameIndex := 48, descriptorIndex := 25, attributes := #[] }, { accessFlags := 25, nameIndex := 277, descriptorIndex := 25, attributes := #[] }, { accessFlags := 25, nameIndex := 280, descriptorIndex := 25, attributes := #[] }, { accessFlags := 25, nameIndex := 282, descriptorIndex := 25, attributes := #[] }, { accessFlags := 25, nameIndex := 284, descriptorIndex := 25, attributes := #[] }, { accessFlags := 25, nameIndex := 286, descriptorIndex := 25, attributes := #[] }, { accessFlags := 25, nameIndex := 288, descriptorIndex := 25, attributes := #[] }, { accessFlags := 25, nameIndex := 290, descriptorIndex := 25, attributes := #[] }, { accessFlags := 25, nameIndex := 292, descriptorIndex := 25, attributes := #[] }, { accessFlags := 26, nameIndex := 108, descriptorIndex := 109, attributes := #[] }, { accessFlags := 25, nameIndex := 294, descriptorIndex := 25, attributes := #[] }])
  fields := #[{ name := "U", type := (.object "jdk/internal/misc/Unsafe"), accessFlags := 24, slot := 0, constantValue := 0 }, { name := "BIG_ENDIAN", type := .boolean, accessFlags := 26, slot := 1, constantValue := 0 }, { name := "LOG2_ARRAY_BOOLEAN_INDEX_SCALE", type := .int, accessFlags := 25, slot := 2, constantValue := 0 }, { name := "LOG2_ARRAY_BYTE_INDEX_SCALE", type := .int, accessFlags := 25, slot := 3, constantValue := 0 }, { name := "LOG2_ARRAY_CHAR_INDEX_SCALE", type := .int, accessFlags := 25, slot := 4, constantValue := 0 }, { name := "LOG2_ARRAY_SHORT_INDEX_SCALE", type := .int, accessFlags := 25, slot := 5, constantValue := 0 }, { name := "LOG2_ARRAY_INT_INDEX_SCALE", type := .int, accessFlags := 25, slot := 6, constantValue := 0 }, { name := "LOG2_ARRAY_LONG_INDEX_SCALE", type := .int, accessFlags := 25, slot := 7, constantValue := 0 }, { name := "LOG2_ARRAY_FLOAT_INDEX_SCALE", type := .int, accessFlags := 25, slot := 8, constantValue := 0 }, { name := "LOG2_ARRAY_DOUBLE_INDEX_SCALE", type := .int, accessFlags := 25, slot := 9, constantValue := 0 }, { name := "LOG2_BYTE_BIT_SIZE", type := .int, accessFlags := 26, slot := 10, constantValue := 0 }, { name := "T_BOOLEAN", type := .int, accessFlags := 25, slot := 11, constantValue := 0 }, { name := "T_CHAR", type := .int, accessFlags := 25, slot := 12, constantValue := 0 }, { name := "T_FLOAT", type := .int, accessFlags := 25, slot := 13, constantValue := 0 }, { name := "T_DOUBLE", type := .int, accessFlags := 25, slot := 14, constantValue := 0 }, { name := "T_BYTE", type := .int, accessFlags := 25, slot := 15, constantValue := 0 }, { name := "T_SHORT", type := .int, accessFlags := 25, slot := 16, constantValue := 0 }, { name := "T_INT", type := .int, accessFlags := 25, slot := 17, constantValue := 0 }, { name := "T_LONG", type := .int, accessFlags := 25, slot := 18, constantValue := 0 }, { name := "JLA", type := (.object "jdk/internal/access/JavaLangAccess"), accessFlags := 26, slot := 19, constantValue := 0 }, { name := "SOFT_MAX_ARRAY_LENGTH", type := .int, accessFlags := 25, slot := 20, constantValue := 0 }]
  methods := #[k18m0]
  instanceTypes := #[]
  staticTypes := #[(.object "jdk/internal/misc/Unsafe"), .boolean, .int, .int, .int, .int, .int, .int, .int, .int, .int, .int, .int, .int, .int, .int, .int, .int, .int, (.object "jdk/internal/access/JavaLangAccess"), .int]
  resolved := Array.replicate 378 none
  statics := none }

def pool19 : Array CpInfo := pool [(1, u "java/lang/Cloneable"), (0, .class_ 1), (0, u "java/lang/Object"), (0, .class_ 3)] 3

/-- java/lang/Cloneable -/
def k19 : Class := { plain "java/lang/Cloneable" (some 0) with
  accessFlags := 1537
  interfaces := #[]
  cf := some (fileOf pool19 2 #[] #[] 1537 4 #[] #[])
  fields := #[]
  methods := #[]
  instanceTypes := #[]
  staticTypes := #[]
  resolved := Array.replicate 8 none
  statics := none }

/-- the primitive byte -/
def k20 : Class := { plain "byte" none with kind := .primitive 'B', accessFlags := 0x411 }
/-- [B -/
def k21 : Class := { plain "[B" (some 0) with kind := .array 20 .byte, interfaces := #[19, 5], accessFlags := 1041 }

/-- the primitive char -/
def k22 : Class := { plain "char" none with kind := .primitive 'C', accessFlags := 0x411 }
/-- [C -/
def k23 : Class := { plain "[C" (some 0) with kind := .array 22 .char, interfaces := #[19, 5], accessFlags := 1041 }

/-- [Ljava/lang/Integer; -/
def k24 : Class := { plain "[Ljava/lang/Integer;" (some 0) with kind := .array 16 (.object "java/lang/Integer"), interfaces := #[19, 5], accessFlags := 1041 }

def heap : Heap := #[{ cls := 7, slots := #[.ref 5, .ref 6, .ref 7, .null], vm := .statics 7 },
  { cls := 10, slots := #[.long 0, .int 1, .null, .int 0, .null, .int 0, .int 0], vm := .statics 10 },
  { cls := 14, slots := #[.null, .null, .null], vm := .statics 14 },
  { cls := 17, slots := #[.int 0, .int 127, .ref 4, .null, .int 0], vm := .statics 17 },
  { cls := 24, slots := #[.ref 8, .ref 9, .ref 10, .ref 11, .ref 12, .ref 13, .ref 14, .ref 15, .ref 16, .ref 17, .ref 18, .ref 19, .ref 20, .ref 21, .ref 22, .ref 23, .ref 24, .ref 25, .ref 26, .ref 27, .ref 28, .ref 29, .ref 30, .ref 31, .ref 32, .ref 33, .ref 34, .ref 35, .ref 36, .ref 37, .ref 38, .ref 39, .ref 40, .ref 41, .ref 42, .ref 43, .ref 44, .ref 45, .ref 46, .ref 47, .ref 48, .ref 49, .ref 50, .ref 51, .ref 52, .ref 53, .ref 54, .ref 55, .ref 56, .ref 57, .ref 58, .ref 59, .ref 60, .ref 61, .ref 62, .ref 63, .ref 64, .ref 65, .ref 66, .ref 67, .ref 68, .ref 69, .ref 70, .ref 71, .ref 72, .ref 73, .ref 74, .ref 75, .ref 76, .ref 77, .ref 78, .ref 79, .ref 80, .ref 81, .ref 82, .ref 83, .ref 84, .ref 85, .ref 86, .ref 87, .ref 88, .ref 89, .ref 90, .ref 91, .ref 92, .ref 93, .ref 94, .ref 95, .ref 96, .ref 97, .ref 98, .ref 99, .ref 100, .ref 101, .ref 102, .ref 103, .ref 104, .ref 105, .ref 106, .ref 107, .ref 108, .ref 109, .ref 110, .ref 111, .ref 112, .ref 113, .ref 114, .ref 115, .ref 116, .ref 117, .ref 118, .ref 119, .ref 120, .ref 121, .ref 122, .ref 123, .ref 124, .ref 125, .ref 126, .ref 127, .ref 128, .ref 129, .ref 130, .ref 131, .ref 132, .ref 133, .ref 134, .ref 135, .ref 136, .ref 137, .ref 138, .ref 139, .ref 140, .ref 141, .ref 142, .ref 143, .ref 144, .ref 145, .ref 146, .ref 147, .ref 148, .ref 149, .ref 150, .ref 151, .ref 152, .ref 153, .ref 154, .ref 155, .ref 156, .ref 157, .ref 158, .ref 159, .ref 160, .ref 161, .ref 162, .ref 163, .ref 164, .ref 165, .ref 166, .ref 167, .ref 168, .ref 169, .ref 170, .ref 171, .ref 172, .ref 173, .ref 174, .ref 175, .ref 176, .ref 177, .ref 178, .ref 179, .ref 180, .ref 181, .ref 182, .ref 183, .ref 184, .ref 185, .ref 186, .ref 187, .ref 188, .ref 189, .ref 190, .ref 191, .ref 192, .ref 193, .ref 194, .ref 195, .ref 196, .ref 197, .ref 198, .ref 199, .ref 200, .ref 201, .ref 202, .ref 203, .ref 204, .ref 205, .ref 206, .ref 207, .ref 208, .ref 209, .ref 210, .ref 211, .ref 212, .ref 213, .ref 214, .ref 215, .ref 216, .ref 217, .ref 218, .ref 219, .ref 220, .ref 221, .ref 222, .ref 223, .ref 224, .ref 225, .ref 226, .ref 227, .ref 228, .ref 229, .ref 230, .ref 231, .ref 232, .ref 233, .ref 234, .ref 235, .ref 236, .ref 237, .ref 238, .ref 239, .ref 240, .ref 241, .ref 242, .ref 243, .ref 244, .ref 245, .ref 246, .ref 247, .ref 248, .ref 249, .ref 250, .ref 251, .ref 252, .ref 253, .ref 254, .ref 255, .ref 256, .ref 257, .ref 258, .ref 259, .ref 260, .ref 261, .ref 262, .ref 263], vm := .none },
  { cls := 7, slots := #[.null, .int 0, .int 0, .null, .null, .int 32], vm := .none },
  { cls := 7, slots := #[.null, .int 1, .int 0, .null, .null, .int 20], vm := .none },
  { cls := 7, slots := #[.null, .int 2, .int 0, .null, .null, .int 16], vm := .none },
  { cls := 16, slots := #[.int (-128)], vm := .none },
  { cls := 16, slots := #[.int (-127)], vm := .none },
  { cls := 16, slots := #[.int (-126)], vm := .none },
  { cls := 16, slots := #[.int (-125)], vm := .none },
  { cls := 16, slots := #[.int (-124)], vm := .none },
  { cls := 16, slots := #[.int (-123)], vm := .none },
  { cls := 16, slots := #[.int (-122)], vm := .none },
  { cls := 16, slots := #[.int (-121)], vm := .none },
  { cls := 16, slots := #[.int (-120)], vm := .none },
  { cls := 16, slots := #[.int (-119)], vm := .none },
  { cls := 16, slots := #[.int (-118)], vm := .none },
  { cls := 16, slots := #[.int (-117)], vm := .none },
  { cls := 16, slots := #[.int (-116)], vm := .none },
  { cls := 16, slots := #[.int (-115)], vm := .none },
  { cls := 16, slots := #[.int (-114)], vm := .none },
  { cls := 16, slots := #[.int (-113)], vm := .none },
  { cls := 16, slots := #[.int (-112)], vm := .none },
  { cls := 16, slots := #[.int (-111)], vm := .none },
  { cls := 16, slots := #[.int (-110)], vm := .none },
  { cls := 16, slots := #[.int (-109)], vm := .none },
  { cls := 16, slots := #[.int (-108)], vm := .none },
  { cls := 16, slots := #[.int (-107)], vm := .none },
  { cls := 16, slots := #[.int (-106)], vm := .none },
  { cls := 16, slots := #[.int (-105)], vm := .none },
  { cls := 16, slots := #[.int (-104)], vm := .none },
  { cls := 16, slots := #[.int (-103)], vm := .none },
  { cls := 16, slots := #[.int (-102)], vm := .none },
  { cls := 16, slots := #[.int (-101)], vm := .none },
  { cls := 16, slots := #[.int (-100)], vm := .none },
  { cls := 16, slots := #[.int (-99)], vm := .none },
  { cls := 16, slots := #[.int (-98)], vm := .none },
  { cls := 16, slots := #[.int (-97)], vm := .none },
  { cls := 16, slots := #[.int (-96)], vm := .none },
  { cls := 16, slots := #[.int (-95)], vm := .none },
  { cls := 16, slots := #[.int (-94)], vm := .none },
  { cls := 16, slots := #[.int (-93)], vm := .none },
  { cls := 16, slots := #[.int (-92)], vm := .none },
  { cls := 16, slots := #[.int (-91)], vm := .none },
  { cls := 16, slots := #[.int (-90)], vm := .none },
  { cls := 16, slots := #[.int (-89)], vm := .none },
  { cls := 16, slots := #[.int (-88)], vm := .none },
  { cls := 16, slots := #[.int (-87)], vm := .none },
  { cls := 16, slots := #[.int (-86)], vm := .none },
  { cls := 16, slots := #[.int (-85)], vm := .none },
  { cls := 16, slots := #[.int (-84)], vm := .none },
  { cls := 16, slots := #[.int (-83)], vm := .none },
  { cls := 16, slots := #[.int (-82)], vm := .none },
  { cls := 16, slots := #[.int (-81)], vm := .none },
  { cls := 16, slots := #[.int (-80)], vm := .none },
  { cls := 16, slots := #[.int (-79)], vm := .none },
  { cls := 16, slots := #[.int (-78)], vm := .none },
  { cls := 16, slots := #[.int (-77)], vm := .none },
  { cls := 16, slots := #[.int (-76)], vm := .none },
  { cls := 16, slots := #[.int (-75)], vm := .none },
  { cls := 16, slots := #[.int (-74)], vm := .none },
  { cls := 16, slots := #[.int (-73)], vm := .none },
  { cls := 16, slots := #[.int (-72)], vm := .none },
  { cls := 16, slots := #[.int (-71)], vm := .none },
  { cls := 16, slots := #[.int (-70)], vm := .none },
  { cls := 16, slots := #[.int (-69)], vm := .none },
  { cls := 16, slots := #[.int (-68)], vm := .none },
  { cls := 16, slots := #[.int (-67)], vm := .none },
  { cls := 16, slots := #[.int (-66)], vm := .none },
  { cls := 16, slots := #[.int (-65)], vm := .none },
  { cls := 16, slots := #[.int (-64)], vm := .none },
  { cls := 16, slots := #[.int (-63)], vm := .none },
  { cls := 16, slots := #[.int (-62)], vm := .none },
  { cls := 16, slots := #[.int (-61)], vm := .none },
  { cls := 16, slots := #[.int (-60)], vm := .none },
  { cls := 16, slots := #[.int (-59)], vm := .none },
  { cls := 16, slots := #[.int (-58)], vm := .none },
  { cls := 16, slots := #[.int (-57)], vm := .none },
  { cls := 16, slots := #[.int (-56)], vm := .none },
  { cls := 16, slots := #[.int (-55)], vm := .none },
  { cls := 16, slots := #[.int (-54)], vm := .none },
  { cls := 16, slots := #[.int (-53)], vm := .none },
  { cls := 16, slots := #[.int (-52)], vm := .none },
  { cls := 16, slots := #[.int (-51)], vm := .none },
  { cls := 16, slots := #[.int (-50)], vm := .none },
  { cls := 16, slots := #[.int (-49)], vm := .none },
  { cls := 16, slots := #[.int (-48)], vm := .none },
  { cls := 16, slots := #[.int (-47)], vm := .none },
  { cls := 16, slots := #[.int (-46)], vm := .none },
  { cls := 16, slots := #[.int (-45)], vm := .none },
  { cls := 16, slots := #[.int (-44)], vm := .none },
  { cls := 16, slots := #[.int (-43)], vm := .none },
  { cls := 16, slots := #[.int (-42)], vm := .none },
  { cls := 16, slots := #[.int (-41)], vm := .none },
  { cls := 16, slots := #[.int (-40)], vm := .none },
  { cls := 16, slots := #[.int (-39)], vm := .none },
  { cls := 16, slots := #[.int (-38)], vm := .none },
  { cls := 16, slots := #[.int (-37)], vm := .none },
  { cls := 16, slots := #[.int (-36)], vm := .none },
  { cls := 16, slots := #[.int (-35)], vm := .none },
  { cls := 16, slots := #[.int (-34)], vm := .none },
  { cls := 16, slots := #[.int (-33)], vm := .none },
  { cls := 16, slots := #[.int (-32)], vm := .none },
  { cls := 16, slots := #[.int (-31)], vm := .none },
  { cls := 16, slots := #[.int (-30)], vm := .none },
  { cls := 16, slots := #[.int (-29)], vm := .none },
  { cls := 16, slots := #[.int (-28)], vm := .none },
  { cls := 16, slots := #[.int (-27)], vm := .none },
  { cls := 16, slots := #[.int (-26)], vm := .none },
  { cls := 16, slots := #[.int (-25)], vm := .none },
  { cls := 16, slots := #[.int (-24)], vm := .none },
  { cls := 16, slots := #[.int (-23)], vm := .none },
  { cls := 16, slots := #[.int (-22)], vm := .none },
  { cls := 16, slots := #[.int (-21)], vm := .none },
  { cls := 16, slots := #[.int (-20)], vm := .none },
  { cls := 16, slots := #[.int (-19)], vm := .none },
  { cls := 16, slots := #[.int (-18)], vm := .none },
  { cls := 16, slots := #[.int (-17)], vm := .none },
  { cls := 16, slots := #[.int (-16)], vm := .none },
  { cls := 16, slots := #[.int (-15)], vm := .none },
  { cls := 16, slots := #[.int (-14)], vm := .none },
  { cls := 16, slots := #[.int (-13)], vm := .none },
  { cls := 16, slots := #[.int (-12)], vm := .none },
  { cls := 16, slots := #[.int (-11)], vm := .none },
  { cls := 16, slots := #[.int (-10)], vm := .none },
  { cls := 16, slots := #[.int (-9)], vm := .none },
  { cls := 16, slots := #[.int (-8)], vm := .none },
  { cls := 16, slots := #[.int (-7)], vm := .none },
  { cls := 16, slots := #[.int (-6)], vm := .none },
  { cls := 16, slots := #[.int (-5)], vm := .none },
  { cls := 16, slots := #[.int (-4)], vm := .none },
  { cls := 16, slots := #[.int (-3)], vm := .none },
  { cls := 16, slots := #[.int (-2)], vm := .none },
  { cls := 16, slots := #[.int (-1)], vm := .none },
  { cls := 16, slots := #[.int 0], vm := .none },
  { cls := 16, slots := #[.int 1], vm := .none },
  { cls := 16, slots := #[.int 2], vm := .none },
  { cls := 16, slots := #[.int 3], vm := .none },
  { cls := 16, slots := #[.int 4], vm := .none },
  { cls := 16, slots := #[.int 5], vm := .none },
  { cls := 16, slots := #[.int 6], vm := .none },
  { cls := 16, slots := #[.int 7], vm := .none },
  { cls := 16, slots := #[.int 8], vm := .none },
  { cls := 16, slots := #[.int 9], vm := .none },
  { cls := 16, slots := #[.int 10], vm := .none },
  { cls := 16, slots := #[.int 11], vm := .none },
  { cls := 16, slots := #[.int 12], vm := .none },
  { cls := 16, slots := #[.int 13], vm := .none },
  { cls := 16, slots := #[.int 14], vm := .none },
  { cls := 16, slots := #[.int 15], vm := .none },
  { cls := 16, slots := #[.int 16], vm := .none },
  { cls := 16, slots := #[.int 17], vm := .none },
  { cls := 16, slots := #[.int 18], vm := .none },
  { cls := 16, slots := #[.int 19], vm := .none },
  { cls := 16, slots := #[.int 20], vm := .none },
  { cls := 16, slots := #[.int 21], vm := .none },
  { cls := 16, slots := #[.int 22], vm := .none },
  { cls := 16, slots := #[.int 23], vm := .none },
  { cls := 16, slots := #[.int 24], vm := .none },
  { cls := 16, slots := #[.int 25], vm := .none },
  { cls := 16, slots := #[.int 26], vm := .none },
  { cls := 16, slots := #[.int 27], vm := .none },
  { cls := 16, slots := #[.int 28], vm := .none },
  { cls := 16, slots := #[.int 29], vm := .none },
  { cls := 16, slots := #[.int 30], vm := .none },
  { cls := 16, slots := #[.int 31], vm := .none },
  { cls := 16, slots := #[.int 32], vm := .none },
  { cls := 16, slots := #[.int 33], vm := .none },
  { cls := 16, slots := #[.int 34], vm := .none },
  { cls := 16, slots := #[.int 35], vm := .none },
  { cls := 16, slots := #[.int 36], vm := .none },
  { cls := 16, slots := #[.int 37], vm := .none },
  { cls := 16, slots := #[.int 38], vm := .none },
  { cls := 16, slots := #[.int 39], vm := .none },
  { cls := 16, slots := #[.int 40], vm := .none },
  { cls := 16, slots := #[.int 41], vm := .none },
  { cls := 16, slots := #[.int 42], vm := .none },
  { cls := 16, slots := #[.int 43], vm := .none },
  { cls := 16, slots := #[.int 44], vm := .none },
  { cls := 16, slots := #[.int 45], vm := .none },
  { cls := 16, slots := #[.int 46], vm := .none },
  { cls := 16, slots := #[.int 47], vm := .none },
  { cls := 16, slots := #[.int 48], vm := .none },
  { cls := 16, slots := #[.int 49], vm := .none },
  { cls := 16, slots := #[.int 50], vm := .none },
  { cls := 16, slots := #[.int 51], vm := .none },
  { cls := 16, slots := #[.int 52], vm := .none },
  { cls := 16, slots := #[.int 53], vm := .none },
  { cls := 16, slots := #[.int 54], vm := .none },
  { cls := 16, slots := #[.int 55], vm := .none },
  { cls := 16, slots := #[.int 56], vm := .none },
  { cls := 16, slots := #[.int 57], vm := .none },
  { cls := 16, slots := #[.int 58], vm := .none },
  { cls := 16, slots := #[.int 59], vm := .none },
  { cls := 16, slots := #[.int 60], vm := .none },
  { cls := 16, slots := #[.int 61], vm := .none },
  { cls := 16, slots := #[.int 62], vm := .none },
  { cls := 16, slots := #[.int 63], vm := .none },
  { cls := 16, slots := #[.int 64], vm := .none },
  { cls := 16, slots := #[.int 65], vm := .none },
  { cls := 16, slots := #[.int 66], vm := .none },
  { cls := 16, slots := #[.int 67], vm := .none },
  { cls := 16, slots := #[.int 68], vm := .none },
  { cls := 16, slots := #[.int 69], vm := .none },
  { cls := 16, slots := #[.int 70], vm := .none },
  { cls := 16, slots := #[.int 71], vm := .none },
  { cls := 16, slots := #[.int 72], vm := .none },
  { cls := 16, slots := #[.int 73], vm := .none },
  { cls := 16, slots := #[.int 74], vm := .none },
  { cls := 16, slots := #[.int 75], vm := .none },
  { cls := 16, slots := #[.int 76], vm := .none },
  { cls := 16, slots := #[.int 77], vm := .none },
  { cls := 16, slots := #[.int 78], vm := .none },
  { cls := 16, slots := #[.int 79], vm := .none },
  { cls := 16, slots := #[.int 80], vm := .none },
  { cls := 16, slots := #[.int 81], vm := .none },
  { cls := 16, slots := #[.int 82], vm := .none },
  { cls := 16, slots := #[.int 83], vm := .none },
  { cls := 16, slots := #[.int 84], vm := .none },
  { cls := 16, slots := #[.int 85], vm := .none },
  { cls := 16, slots := #[.int 86], vm := .none },
  { cls := 16, slots := #[.int 87], vm := .none },
  { cls := 16, slots := #[.int 88], vm := .none },
  { cls := 16, slots := #[.int 89], vm := .none },
  { cls := 16, slots := #[.int 90], vm := .none },
  { cls := 16, slots := #[.int 91], vm := .none },
  { cls := 16, slots := #[.int 92], vm := .none },
  { cls := 16, slots := #[.int 93], vm := .none },
  { cls := 16, slots := #[.int 94], vm := .none },
  { cls := 16, slots := #[.int 95], vm := .none },
  { cls := 16, slots := #[.int 96], vm := .none },
  { cls := 16, slots := #[.int 97], vm := .none },
  { cls := 16, slots := #[.int 98], vm := .none },
  { cls := 16, slots := #[.int 99], vm := .none },
  { cls := 16, slots := #[.int 100], vm := .none },
  { cls := 16, slots := #[.int 101], vm := .none },
  { cls := 16, slots := #[.int 102], vm := .none },
  { cls := 16, slots := #[.int 103], vm := .none },
  { cls := 16, slots := #[.int 104], vm := .none },
  { cls := 16, slots := #[.int 105], vm := .none },
  { cls := 16, slots := #[.int 106], vm := .none },
  { cls := 16, slots := #[.int 107], vm := .none },
  { cls := 16, slots := #[.int 108], vm := .none },
  { cls := 16, slots := #[.int 109], vm := .none },
  { cls := 16, slots := #[.int 110], vm := .none },
  { cls := 16, slots := #[.int 111], vm := .none },
  { cls := 16, slots := #[.int 112], vm := .none },
  { cls := 16, slots := #[.int 113], vm := .none },
  { cls := 16, slots := #[.int 114], vm := .none },
  { cls := 16, slots := #[.int 115], vm := .none },
  { cls := 16, slots := #[.int 116], vm := .none },
  { cls := 16, slots := #[.int 117], vm := .none },
  { cls := 16, slots := #[.int 118], vm := .none },
  { cls := 16, slots := #[.int 119], vm := .none },
  { cls := 16, slots := #[.int 120], vm := .none },
  { cls := 16, slots := #[.int 121], vm := .none },
  { cls := 16, slots := #[.int 122], vm := .none },
  { cls := 16, slots := #[.int 123], vm := .none },
  { cls := 16, slots := #[.int 124], vm := .none },
  { cls := 16, slots := #[.int 125], vm := .none },
  { cls := 16, slots := #[.int 126], vm := .none },
  { cls := 16, slots := #[.int 127], vm := .none }]
def classes : Array Class := #[k0, k1, k2, k3, k4, k5, k6, k7, k8, k9, k10, k11, k12, k13, k14, k15, k16, k17, k18, k19, k20, k21, k22, k23, k24]
def interned : List (Array UInt16 × Addr) := []
def slotsUsed : Nat := 549
def theMethod : MethodId := ⟨1, 4⟩
def args0 : Array Value := #[.int 5, .int 5, .int 5, .int 5, .int 5, .int 5]
def aboutOver (below : List Frame) : State where
  vm := { classes := classes, interned := interned.toArray }
  heap := heap
  slotsUsed := slotsUsed
  threads := #[{ frames := .invoking theMethod args0 :: below }]
def below0 : List Frame := [.native { method := ⟨0, 0⟩, args := #[] }]
def about1 : State := aboutOver below0
def p0 : Program := .bare "" "" ""
def e0 : Env := launch0.env 0 0 0
theorem w_frames : about1.frames = Frame.invoking theMethod args0 :: below0 := rfl
set_option maxRecDepth 65536 in
theorem w_args : argsFit about1.vm theMethod args0 = true := by decide +kernel
set_option maxRecDepth 65536 in
theorem w_heap : heapFits about1 = true := by decide +kernel
set_option maxRecDepth 65536 in
theorem w_runnable : about1.curStatus? = some .runnable := by decide +kernel
set_option maxRecDepth 65536 in
theorem w_alone : about1.alone = true := by decide +kernel
set_option maxRecDepth 65536 in
theorem w_named : about1.methodNamed? x = some theMethod := by decide +kernel
set_option maxRecDepth 65536 in
theorem w_hears : about1.hears theMethod below0 = true := by decide +kernel
set_option maxRecDepth 65536 in
theorem w_ripe : about1.ripe theMethod args0 below0 = true := by decide +kernel
theorem w_running : about1.status = .running := rfl
set_option maxRecDepth 65536 in
theorem w_room : about1.hasRoom e0.platform room_1 = true :=
  launch0.hasRoom_least _ room_1 (by decide +kernel) (by decide +kernel) (by decide +kernel) (by decide +kernel) (by decide +kernel) (by decide +kernel)
theorem allAtoms_all (ts : List Jvm.Cond) (a : Array Jvm.Value) (st : Jvm.State) : (allAtoms ts).before a st = ts.all (fun c => c.before a st) := by
  induction ts with
  | nil => rfl
  | cons c t ih =>
    show (Jvm.Cond.and c (allAtoms t)).before a st = _
    rw [Jvm.Cond.before_and, ih, List.all_cons]
def words1 : List Jvm.Cond := Jvm.Cond.code x code maxLocals ret :: tables_1
/-- a 'code' word, met by the world's own term for the bytes: nothing is compared byte by byte -/
theorem code_word {y : MethodName} {bytes : ByteArray} {mx : Nat} {rt : Option FieldType} {a : Array Value} {s : State} {m : MethodId} {meth : Method} {c : Code} (h1 : s.methodNamed? y = some m) (h2 : s.vm.method? m = some meth) (h3 : meth.code = some c) (h4 : c.code = bytes)
    (h5 : (c.maxLocals == mx && c.exceptionTable.isEmpty && decide (c.maxStack ≤ mostOperands) && decide (meth.sig.returnType = rt) && !meth.locks && decide (parseMethodDescriptor y.desc = some meth.sig)) = true) : (Jvm.Cond.code y bytes mx rt).before a s = true := by
  simp only [Bool.and_eq_true, beq_iff_eq, Bool.not_eq_true', decide_eq_true_eq] at h5
  obtain ⟨⟨⟨⟨⟨g1, g2⟩, g3⟩, g4⟩, g5⟩, g6⟩ := h5
  simp [Cond.before, Cond.holds, Cond.value, h1, h2, h3, h4, g1, g2, g3, g4, g5, g6]
def isCode : Jvm.Cond → Bool
  | .code _ _ _ _ => true
  | _ => false
theorem all_split {L : List Jvm.Cond} {P : Jvm.Cond → Bool} (h1 : L.all (fun c => isCode c || P c) = true) (h2 : ∀ c ∈ L.filter isCode, P c = true) : L.all P = true := by
  refine List.all_eq_true.mpr fun c hc => ?_
  have h := List.all_eq_true.mp h1 c hc
  rcases Bool.eq_false_or_eq_true (isCode c) with hi | hi
  · exact h2 c (List.mem_filter.mpr ⟨hc, hi⟩)
  · simpa [hi] using h
set_option maxRecDepth 65536 in
theorem w_c0 : (Jvm.Cond.code x code maxLocals ret).before args0 about1 = true := code_word (m := ⟨1, 4⟩) (meth := k1m4) (c := k1c4) (by decide +kernel) rfl rfl rfl (by decide +kernel)
set_option maxRecDepth 65536 in
theorem w_c1 : (Jvm.Cond.code ({ cls := "com/example/campo_grande/campogrande/ContentKeyEqualsPinLaw", name := "alg", desc := "(I)Lcom/example/campo_grande/campogrande/SignatureAlgorithm;" } : Jvm.MethodName) method_2_code (1 : Nat) (Option.some (Jvm.ClassFile.FieldType.object "com/example/campo_grande/campogrande/SignatureAlgorithm"))).before args0 about1 = true := code_word (m := ⟨1, 1⟩) (meth := k1m1) (c := k1c1) (by decide +kernel) rfl rfl rfl (by decide +kernel)
set_option maxRecDepth 65536 in
theorem w_c2 : (Jvm.Cond.code ({ cls := "com/example/campo_grande/campogrande/ContentKeyEqualsPinLaw", name := "sig", desc := "(II)Ljava/lang/String;" } : Jvm.MethodName) method_4_code (4 : Nat) (Option.some (Jvm.ClassFile.FieldType.object "java/lang/String"))).before args0 about1 = true := code_word (m := ⟨1, 3⟩) (meth := k1m3) (c := k1c3) (by decide +kernel) rfl rfl rfl (by decide +kernel)
set_option maxRecDepth 65536 in
theorem w_c3 : (Jvm.Cond.code ({ cls := "com/example/campo_grande/campogrande/ContentKeyEqualsPinLaw", name := "hex", desc := "(I)C" } : Jvm.MethodName) method_3_code (2 : Nat) (Option.some Jvm.ClassFile.FieldType.char)).before args0 about1 = true := code_word (m := ⟨1, 2⟩) (meth := k1m2) (c := k1c2) (by decide +kernel) rfl rfl rfl (by decide +kernel)
set_option maxRecDepth 65536 in
theorem w_c4 : (Jvm.Cond.code ({ cls := "java/lang/String", name := "<init>", desc := "([C)V" } : Jvm.MethodName) jdk_42_method_3_code (2 : Nat) (Option.none : Option Jvm.ClassFile.FieldType)).before args0 about1 = true := code_word (m := ⟨10, 1⟩) (meth := k10m1) (c := k10c1) (by decide +kernel) rfl rfl rfl (by decide +kernel)
set_option maxRecDepth 65536 in
theorem w_c5 : (Jvm.Cond.code ({ cls := "java/lang/String", name := "<init>", desc := "([CIILjava/lang/Void;)V" } : Jvm.MethodName) jdk_42_method_149_code (6 : Nat) (Option.none : Option Jvm.ClassFile.FieldType)).before args0 about1 = true := code_word (m := ⟨10, 5⟩) (meth := k10m5) (c := k10c5) (by decide +kernel) rfl rfl rfl (by decide +kernel)
set_option maxRecDepth 65536 in
theorem w_c6 : (Jvm.Cond.code ({ cls := "java/lang/Object", name := "<init>", desc := "()V" } : Jvm.MethodName) object_method_1_code (1 : Nat) (Option.none : Option Jvm.ClassFile.FieldType)).before args0 about1 = true := code_word (m := ⟨0, 0⟩) (meth := k0m0) (c := k0c0) (by decide +kernel) rfl rfl rfl (by decide +kernel)
set_option maxRecDepth 65536 in
theorem w_c7 : (Jvm.Cond.code ({ cls := "java/lang/StringUTF16", name := "compress", desc := "([CII)[B" } : Jvm.MethodName) jdk_52_method_16_code (6 : Nat) (Option.some (Jvm.ClassFile.FieldType.array Jvm.ClassFile.FieldType.byte))).before args0 about1 = true := code_word (m := ⟨11, 2⟩) (meth := k11m2) (c := k11c2) (by decide +kernel) rfl rfl rfl (by decide +kernel)
set_option maxRecDepth 65536 in
theorem w_c8 : (Jvm.Cond.code ({ cls := "java/lang/StringUTF16", name := "compress", desc := "([CI[BII)I" } : Jvm.MethodName) jdk_52_method_21_code (7 : Nat) (Option.some Jvm.ClassFile.FieldType.int)).before args0 about1 = true := code_word (m := ⟨11, 3⟩) (meth := k11m3) (c := k11c3) (by decide +kernel) rfl rfl rfl (by decide +kernel)
set_option maxRecDepth 65536 in
theorem w_c9 : (Jvm.Cond.code ({ cls := "java/lang/StringUTF16", name := "coderFromArrayLen", desc := "([BI)B" } : Jvm.MethodName) jdk_52_method_15_code (2 : Nat) (Option.some Jvm.ClassFile.FieldType.byte)).before args0 about1 = true := code_word (m := ⟨11, 1⟩) (meth := k11m1) (c := k11c1) (by decide +kernel) rfl rfl rfl (by decide +kernel)
set_option maxRecDepth 65536 in
theorem w_c10 : (Jvm.Cond.code ({ cls := "com/example/campo_grande/campogrande/ContentKey", name := "<init>", desc := "(ILcom/example/campo_grande/campogrande/SignatureAlgorithm;Ljava/lang/String;I)V" } : Jvm.MethodName) prog_13_method_1_code (5 : Nat) (Option.none : Option Jvm.ClassFile.FieldType)).before args0 about1 = true := code_word (m := ⟨2, 0⟩) (meth := k2m0) (c := k2c0) (by decide +kernel) rfl rfl rfl (by decide +kernel)
set_option maxRecDepth 65536 in
theorem w_c11 : (Jvm.Cond.code ({ cls := "java/util/Objects", name := "requireNonNull", desc := "(Ljava/lang/Object;Ljava/lang/String;)Ljava/lang/Object;" } : Jvm.MethodName) jdk_31_method_11_code (2 : Nat) (Option.some (Jvm.ClassFile.FieldType.object "java/lang/Object"))).before args0 about1 = true := code_word (m := ⟨12, 1⟩) (meth := k12m1) (c := k12c1) (by decide +kernel) rfl rfl rfl (by decide +kernel)
set_option maxRecDepth 65536 in
theorem w_c12 : (Jvm.Cond.code ({ cls := "com/example/campo_grande/campogrande/SignatureAlgorithm", name := "isSignature", desc := "(Ljava/lang/String;)Z" } : Jvm.MethodName) prog_25_method_6_code (4 : Nat) (Option.some Jvm.ClassFile.FieldType.boolean)).before args0 about1 = true := code_word (m := ⟨7, 0⟩) (meth := k7m0) (c := k7c0) (by decide +kernel) rfl rfl rfl (by decide +kernel)
set_option maxRecDepth 65536 in
theorem w_c13 : (Jvm.Cond.code ({ cls := "java/lang/String", name := "length", desc := "()I" } : Jvm.MethodName) jdk_42_method_54_code (1 : Nat) (Option.some Jvm.ClassFile.FieldType.int)).before args0 about1 = true := code_word (m := ⟨10, 2⟩) (meth := k10m2) (c := k10c2) (by decide +kernel) rfl rfl rfl (by decide +kernel)
set_option maxRecDepth 65536 in
theorem w_c14 : (Jvm.Cond.code ({ cls := "java/lang/String", name := "coder", desc := "()B" } : Jvm.MethodName) jdk_42_method_152_code (1 : Nat) (Option.some Jvm.ClassFile.FieldType.byte)).before args0 about1 = true := code_word (m := ⟨10, 6⟩) (meth := k10m6) (c := k10c6) (by decide +kernel) rfl rfl rfl (by decide +kernel)
set_option maxRecDepth 65536 in
theorem w_c15 : (Jvm.Cond.code ({ cls := "java/lang/String", name := "charAt", desc := "(I)C" } : Jvm.MethodName) jdk_42_method_56_code (2 : Nat) (Option.some Jvm.ClassFile.FieldType.char)).before args0 about1 = true := code_word (m := ⟨10, 3⟩) (meth := k10m3) (c := k10c3) (by decide +kernel) rfl rfl rfl (by decide +kernel)
set_option maxRecDepth 65536 in
theorem w_c16 : (Jvm.Cond.code ({ cls := "java/lang/String", name := "isLatin1", desc := "()Z" } : Jvm.MethodName) jdk_42_method_154_code (1 : Nat) (Option.some Jvm.ClassFile.FieldType.boolean)).before args0 about1 = true := code_word (m := ⟨10, 7⟩) (meth := k10m7) (c := k10c7) (by decide +kernel) rfl rfl rfl (by decide +kernel)
set_option maxRecDepth 65536 in
theorem w_c17 : (Jvm.Cond.code ({ cls := "java/lang/StringLatin1", name := "charAt", desc := "([BI)C" } : Jvm.MethodName) jdk_43_method_2_code (2 : Nat) (Option.some Jvm.ClassFile.FieldType.char)).before args0 about1 = true := code_word (m := ⟨13, 1⟩) (meth := k13m1) (c := k13c1) (by decide +kernel) rfl rfl rfl (by decide +kernel)
set_option maxRecDepth 65536 in
theorem w_c18 : (Jvm.Cond.code ({ cls := "java/lang/String", name := "checkIndex", desc := "(II)V" } : Jvm.MethodName) jdk_42_method_155_code (2 : Nat) (Option.none : Option Jvm.ClassFile.FieldType)).before args0 about1 = true := code_word (m := ⟨10, 8⟩) (meth := k10m8) (c := k10c8) (by decide +kernel) rfl rfl rfl (by decide +kernel)
set_option maxRecDepth 65536 in
theorem w_c19 : (Jvm.Cond.code ({ cls := "jdk/internal/util/Preconditions", name := "checkIndex", desc := "(IILjava/util/function/BiFunction;)I" } : Jvm.MethodName) jdk_41_method_11_code (3 : Nat) (Option.some Jvm.ClassFile.FieldType.int)).before args0 about1 = true := code_word (m := ⟨14, 1⟩) (meth := k14m1) (c := k14c1) (by decide +kernel) rfl rfl rfl (by decide +kernel)
set_option maxRecDepth 65536 in
theorem w_c20 : (Jvm.Cond.code ({ cls := "com/example/campo_grande/campogrande/ContentKey", name := "equals", desc := "(Ljava/lang/Object;)Z" } : Jvm.MethodName) prog_13_method_9_code (3 : Nat) (Option.some Jvm.ClassFile.FieldType.boolean)).before args0 about1 = true := code_word (m := ⟨2, 1⟩) (meth := k2m1) (c := k2c1) (by decide +kernel) rfl rfl rfl (by decide +kernel)
set_option maxRecDepth 65536 in
theorem w_c21 : (Jvm.Cond.code ({ cls := "java/lang/String", name := "equals", desc := "(Ljava/lang/Object;)Z" } : Jvm.MethodName) jdk_42_method_66_code (3 : Nat) (Option.some Jvm.ClassFile.FieldType.boolean)).before args0 about1 = true := code_word (m := ⟨10, 4⟩) (meth := k10m4) (c := k10c4) (by decide +kernel) rfl rfl rfl (by decide +kernel)
set_option maxRecDepth 65536 in
theorem w_c22 : (Jvm.Cond.code ({ cls := "java/lang/StringLatin1", name := "equals", desc := "([B[B)Z" } : Jvm.MethodName) jdk_43_method_13_code (3 : Nat) (Option.some Jvm.ClassFile.FieldType.boolean)).before args0 about1 = true := code_word (m := ⟨13, 2⟩) (meth := k13m2) (c := k13c2) (by decide +kernel) rfl rfl rfl (by decide +kernel)
set_option maxRecDepth 65536 in
theorem w_c23 : (Jvm.Cond.code ({ cls := "java/lang/Integer", name := "valueOf", desc := "(I)Ljava/lang/Integer;" } : Jvm.MethodName) jdk_33_method_22_code (1 : Nat) (Option.some (Jvm.ClassFile.FieldType.object "java/lang/Integer"))).before args0 about1 = true := code_word (m := ⟨16, 0⟩) (meth := k16m0) (c := k16c0) (by decide +kernel) rfl rfl rfl (by decide +kernel)
set_option maxRecDepth 65536 in
theorem w_c24 : (Jvm.Cond.code ({ cls := "java/lang/Integer", name := "<init>", desc := "(I)V" } : Jvm.MethodName) jdk_33_method_23_code (2 : Nat) (Option.none : Option Jvm.ClassFile.FieldType)).before args0 about1 = true := code_word (m := ⟨16, 1⟩) (meth := k16m1) (c := k16c1) (by decide +kernel) rfl rfl rfl (by decide +kernel)
set_option maxRecDepth 65536 in
theorem w_c25 : (Jvm.Cond.code ({ cls := "java/lang/Number", name := "<init>", desc := "()V" } : Jvm.MethodName) jdk_18_method_1_code (1 : Nat) (Option.none : Option Jvm.ClassFile.FieldType)).before args0 about1 = true := code_word (m := ⟨15, 0⟩) (meth := k15m0) (c := k15c0) (by decide +kernel) rfl rfl rfl (by decide +kernel)
def codes1 : List Jvm.Cond := [Jvm.Cond.code x code maxLocals ret, Jvm.Cond.code ({ cls := "com/example/campo_grande/campogrande/ContentKeyEqualsPinLaw", name := "alg", desc := "(I)Lcom/example/campo_grande/campogrande/SignatureAlgorithm;" } : Jvm.MethodName) method_2_code (1 : Nat) (Option.some (Jvm.ClassFile.FieldType.object "com/example/campo_grande/campogrande/SignatureAlgorithm")), Jvm.Cond.code ({ cls := "com/example/campo_grande/campogrande/ContentKeyEqualsPinLaw", name := "sig", desc := "(II)Ljava/lang/String;" } : Jvm.MethodName) method_4_code (4 : Nat) (Option.some (Jvm.ClassFile.FieldType.object "java/lang/String")), Jvm.Cond.code ({ cls := "com/example/campo_grande/campogrande/ContentKeyEqualsPinLaw", name := "hex", desc := "(I)C" } : Jvm.MethodName) method_3_code (2 : Nat) (Option.some Jvm.ClassFile.FieldType.char), Jvm.Cond.code ({ cls := "java/lang/String", name := "<init>", desc := "([C)V" } : Jvm.MethodName) jdk_42_method_3_code (2 : Nat) (Option.none : Option Jvm.ClassFile.FieldType), Jvm.Cond.code ({ cls := "java/lang/String", name := "<init>", desc := "([CIILjava/lang/Void;)V" } : Jvm.MethodName) jdk_42_method_149_code (6 : Nat) (Option.none : Option Jvm.ClassFile.FieldType), Jvm.Cond.code ({ cls := "java/lang/Object", name := "<init>", desc := "()V" } : Jvm.MethodName) object_method_1_code (1 : Nat) (Option.none : Option Jvm.ClassFile.FieldType), Jvm.Cond.code ({ cls := "java/lang/StringUTF16", name := "compress", desc := "([CII)[B" } : Jvm.MethodName) jdk_52_method_16_code (6 : Nat) (Option.some (Jvm.ClassFile.FieldType.array Jvm.ClassFile.FieldType.byte)), Jvm.Cond.code ({ cls := "java/lang/StringUTF16", name := "compress", desc := "([CI[BII)I" } : Jvm.MethodName) jdk_52_method_21_code (7 : Nat) (Option.some Jvm.ClassFile.FieldType.int), Jvm.Cond.code ({ cls := "java/lang/StringUTF16", name := "coderFromArrayLen", desc := "([BI)B" } : Jvm.MethodName) jdk_52_method_15_code (2 : Nat) (Option.some Jvm.ClassFile.FieldType.byte), Jvm.Cond.code ({ cls := "com/example/campo_grande/campogrande/ContentKey", name := "<init>", desc := "(ILcom/example/campo_grande/campogrande/SignatureAlgorithm;Ljava/lang/String;I)V" } : Jvm.MethodName) prog_13_method_1_code (5 : Nat) (Option.none : Option Jvm.ClassFile.FieldType), Jvm.Cond.code ({ cls := "java/util/Objects", name := "requireNonNull", desc := "(Ljava/lang/Object;Ljava/lang/String;)Ljava/lang/Object;" } : Jvm.MethodName) jdk_31_method_11_code (2 : Nat) (Option.some (Jvm.ClassFile.FieldType.object "java/lang/Object")), Jvm.Cond.code ({ cls := "com/example/campo_grande/campogrande/SignatureAlgorithm", name := "isSignature", desc := "(Ljava/lang/String;)Z" } : Jvm.MethodName) prog_25_method_6_code (4 : Nat) (Option.some Jvm.ClassFile.FieldType.boolean), Jvm.Cond.code ({ cls := "java/lang/String", name := "length", desc := "()I" } : Jvm.MethodName) jdk_42_method_54_code (1 : Nat) (Option.some Jvm.ClassFile.FieldType.int), Jvm.Cond.code ({ cls := "java/lang/String", name := "coder", desc := "()B" } : Jvm.MethodName) jdk_42_method_152_code (1 : Nat) (Option.some Jvm.ClassFile.FieldType.byte), Jvm.Cond.code ({ cls := "java/lang/String", name := "charAt", desc := "(I)C" } : Jvm.MethodName) jdk_42_method_56_code (2 : Nat) (Option.some Jvm.ClassFile.FieldType.char), Jvm.Cond.code ({ cls := "java/lang/String", name := "isLatin1", desc := "()Z" } : Jvm.MethodName) jdk_42_method_154_code (1 : Nat) (Option.some Jvm.ClassFile.FieldType.boolean), Jvm.Cond.code ({ cls := "java/lang/StringLatin1", name := "charAt", desc := "([BI)C" } : Jvm.MethodName) jdk_43_method_2_code (2 : Nat) (Option.some Jvm.ClassFile.FieldType.char), Jvm.Cond.code ({ cls := "java/lang/String", name := "checkIndex", desc := "(II)V" } : Jvm.MethodName) jdk_42_method_155_code (2 : Nat) (Option.none : Option Jvm.ClassFile.FieldType), Jvm.Cond.code ({ cls := "jdk/internal/util/Preconditions", name := "checkIndex", desc := "(IILjava/util/function/BiFunction;)I" } : Jvm.MethodName) jdk_41_method_11_code (3 : Nat) (Option.some Jvm.ClassFile.FieldType.int), Jvm.Cond.code ({ cls := "com/example/campo_grande/campogrande/ContentKey", name := "equals", desc := "(Ljava/lang/Object;)Z" } : Jvm.MethodName) prog_13_method_9_code (3 : Nat) (Option.some Jvm.ClassFile.FieldType.boolean), Jvm.Cond.code ({ cls := "java/lang/String", name := "equals", desc := "(Ljava/lang/Object;)Z" } : Jvm.MethodName) jdk_42_method_66_code (3 : Nat) (Option.some Jvm.ClassFile.FieldType.boolean), Jvm.Cond.code ({ cls := "java/lang/StringLatin1", name := "equals", desc := "([B[B)Z" } : Jvm.MethodName) jdk_43_method_13_code (3 : Nat) (Option.some Jvm.ClassFile.FieldType.boolean), Jvm.Cond.code ({ cls := "java/lang/Integer", name := "valueOf", desc := "(I)Ljava/lang/Integer;" } : Jvm.MethodName) jdk_33_method_22_code (1 : Nat) (Option.some (Jvm.ClassFile.FieldType.object "java/lang/Integer")), Jvm.Cond.code ({ cls := "java/lang/Integer", name := "<init>", desc := "(I)V" } : Jvm.MethodName) jdk_33_method_23_code (2 : Nat) (Option.none : Option Jvm.ClassFile.FieldType), Jvm.Cond.code ({ cls := "java/lang/Number", name := "<init>", desc := "()V" } : Jvm.MethodName) jdk_18_method_1_code (1 : Nat) (Option.none : Option Jvm.ClassFile.FieldType)]
set_option maxRecDepth 65536 in
theorem codes_eq : words1.filter isCode = codes1 := rfl
theorem w_codes : ∀ c ∈ words1.filter isCode, c.before args0 about1 = true := by
  rw [codes_eq]
  intro c hc
  simp only [codes1, List.mem_cons, List.not_mem_nil, or_false] at hc
  rcases hc with rfl | rfl | rfl | rfl | rfl | rfl | rfl | rfl | rfl | rfl | rfl | rfl | rfl | rfl | rfl | rfl | rfl | rfl | rfl | rfl | rfl | rfl | rfl | rfl | rfl | rfl
  · exact w_c0
  · exact w_c1
  · exact w_c2
  · exact w_c3
  · exact w_c4
  · exact w_c5
  · exact w_c6
  · exact w_c7
  · exact w_c8
  · exact w_c9
  · exact w_c10
  · exact w_c11
  · exact w_c12
  · exact w_c13
  · exact w_c14
  · exact w_c15
  · exact w_c16
  · exact w_c17
  · exact w_c18
  · exact w_c19
  · exact w_c20
  · exact w_c21
  · exact w_c22
  · exact w_c23
  · exact w_c24
  · exact w_c25
set_option maxRecDepth 65536 in
theorem w_t1 : (words1.take 24).all (fun c => isCode c || c.before args0 about1) = true := by decide +kernel
set_option maxRecDepth 65536 in
theorem w_t2 : ((words1.drop 24).take 24).all (fun c => isCode c || c.before args0 about1) = true := by decide +kernel
set_option maxRecDepth 65536 in
theorem w_t3 : (((words1.drop 24).drop 24).take 24).all (fun c => isCode c || c.before args0 about1) = true := by decide +kernel
set_option maxRecDepth 65536 in
theorem w_t4 : ((((words1.drop 24).drop 24).drop 24).take 24).all (fun c => isCode c || c.before args0 about1) = true := by decide +kernel
set_option maxRecDepth 65536 in
theorem w_t5 : (((((words1.drop 24).drop 24).drop 24).drop 24).take 24).all (fun c => isCode c || c.before args0 about1) = true := by decide +kernel
set_option maxRecDepth 65536 in
theorem w_t6 : ((((((words1.drop 24).drop 24).drop 24).drop 24).drop 24).take 24).all (fun c => isCode c || c.before args0 about1) = true := by decide +kernel
set_option maxRecDepth 65536 in
theorem w_t7 : ((((((words1.drop 24).drop 24).drop 24).drop 24).drop 24).drop 24).all (fun c => isCode c || c.before args0 about1) = true := by decide +kernel
theorem w_tables : (allAtoms (Jvm.Cond.code x code maxLocals ret :: tables_1)).before args0 about1 = true := by
  rw [allAtoms_all]
  show words1.all (fun c => c.before args0 about1) = true
  refine all_split ?_ w_codes
  rw [← List.take_append_drop 24 words1, List.all_append, w_t1, ← List.take_append_drop 24 (words1.drop 24), List.all_append, w_t2, ← List.take_append_drop 24 ((words1.drop 24).drop 24), List.all_append, w_t3, ← List.take_append_drop 24 (((words1.drop 24).drop 24).drop 24), List.all_append, w_t4, ← List.take_append_drop 24 ((((words1.drop 24).drop 24).drop 24).drop 24), List.all_append, w_t5, ← List.take_append_drop 24 (((((words1.drop 24).drop 24).drop 24).drop 24).drop 24), List.all_append, w_t6, w_t7]
  rfl
set_option maxRecDepth 65536 in
theorem w_rest : rest_1_c.before args0 about1 = true := by decide +kernel
set_option maxRecDepth 65536 in
theorem w_case : (Jvm.Cond.and given_1 narrow_1).before args0 about1 = true := by decide +kernel
theorem w_applies : (headSpec (Jvm.Cond.code x code maxLocals ret :: tables_1) room_1).applies x e0.platform about1 = true :=
  (Spec.applies_iff w_frames).mpr ⟨w_running, w_runnable, w_alone, w_named, w_hears, w_ripe, w_room, w_tables⟩
theorem atStart : AtStart classFile x code maxLocals ret World_1 tables_1 room_1 Calls_1 rest_1 Pre_1 launch0 p0 e0 about1 theMethod args0 below0 :=
  ⟨lists_1, trivial, launch0.admits_env _ _ _, launch0.least_env, fairChoices_fair.cas, fairChoices_fair.clock, w_frames, w_args, w_heap, w_applies, trivial, w_rest, w_case⟩
end start1
theorem witness_1 : WitnessClaimed_1 := ⟨start1.p0, start1.e0, start1.about1, start1.theMethod, start1.args0, start1.below0, start1.atStart⟩
end Jvm.Pilot.@@N@@
