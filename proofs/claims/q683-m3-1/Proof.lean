import JvmDerived
import JvmDerived.Pilot.@@N@@Statement
import JvmDerived.Pilot.@@N@@Code
set_option linter.unusedVariables false
set_option linter.unusedSimpArgs false

namespace Jvm.Pilot.@@N@@
namespace Own
open Jvm Jvm.ClassFile Sem Op Lib Bundle Jvm.Free Jvm.Stand Jvm.LawKit Jvm.RoadKit
section Own
variable {l : Launch} {Z : State} {EL : List (String × Nat)} {y : MethodName} {bytes : ByteArray} {maxL : Nat} {ret : Option FieldType} {R : Room} {B0 : Addr → Prop} {Q : Option Value → Heap → (Addr → Prop) → Prop} {p : Program} {e : Env} {s : State} {m : MethodId} {args : Array Value} {below : List Frame} {meth : Method} {c : Code} {B : Addr → Prop} {T : State} {h h' : Heap} {k n : Nat} {a0 : Array Value} {pc pc' : Nat} {ls ls' : Array Slot} {st : List Value} {a b : Addr} {ws : List Addr} {ty : FieldType} {vs : List Value}
/-! facts on arrays and Strings -/
def Ar (Z : State) (h : Heap) (a : Addr) (ty : FieldType) (vs : List Value) : Prop := ∃ c : Cell, Arr Z h a c ty ∧ c.slots.toList = vs ∧ vs.length < 2 ^ 31 ∧ ∀ v ∈ vs, fits ty v = true
theorem Ar.keep (F : Ar Z h a ty vs) (K : Keep h h' ws) (q : a ∉ ws) : Ar Z h' a ty vs := by
  obtain ⟨c, A, r⟩ := F; exact ⟨c, ⟨K.2.1 a c A.1 q, A.2⟩, r⟩
theorem Ar.lt (F : Ar Z h a ty vs) : a < h.size := by obtain ⟨c, A, -⟩ := F; exact A.lt
theorem Ar.new {kc : ClassId} {z : Int32} (A : Arr Z h a (newA kc ty z) ty) (q : ¬ z < 0) : Ar Z h a ty (List.replicate z.toNatClampNeg (defaultValue ty)) :=
  ⟨_, A, by simp [newA], by simpa using (back32 q).2, fun v hv => by rw [List.eq_of_mem_replicate hv]; cases ty <;> rfl⟩
theorem len32 {n : Nat} (h : n < 2 ^ 31) : ¬ n.toInt32 < 0 ∧ n.toInt32.toNatClampNeg = n ∧ n.toInt32.toInt = n := by
  have e3 : n.toInt32.toInt = n := len_toInt h
  have e0 : (0 : Int32).toInt = 0 := rfl
  refine ⟨by rw [Int32.lt_iff_toInt_lt, e3, e0]; omega, by simp only [Int32.toNatClampNeg, e3]; omega, e3⟩
theorem Ar.toArv {z : Int32} (F : Ar Z h a ty vs) (hz : vs.length.toInt32 = z) (d : Value) : ∃ k, Arv Z h a k ty z vs d := by
  obtain ⟨c, A, e, hl, hf⟩ := F
  subst hz
  obtain ⟨q1, q2, -⟩ := len32 hl
  have e2 : c.slots.size = vs.length := by rw [← e]; simp
  refine ⟨c.cls, c, A, rfl, by rw [e2, q2], q1, fun i hi => ?_, fun i hi => ?_⟩
  · have hi' : i < vs.length := by omega
    rw [← Array.getElem?_toList, e, List.getD_eq_getElem?_getD, List.getElem?_eq_getElem hi']; rfl
  · have hi' : i < vs.length := by omega
    rw [List.getD_eq_getElem?_getD, List.getElem?_eq_getElem hi']; exact hf _ (List.getElem_mem _)
theorem Ar.ofArv {kc : ClassId} {z : Int32} {d : Value} (F : Arv Z h a kc ty z vs d) (hl : z.toNatClampNeg = vs.length) : Ar Z h a ty vs := by
  obtain ⟨c, A, -, S, q, H, G⟩ := F
  have e2 : c.slots.size = vs.length := by rw [S, hl]
  have e3 : c.slots.toList = vs := by
    apply List.ext_getElem?
    intro i
    by_cases hi : i < vs.length
    · rw [Array.getElem?_toList, H i (by omega), List.getD_eq_getElem?_getD, List.getElem?_eq_getElem hi]; rfl
    · rw [List.getElem?_eq_none (by rw [Array.length_toList]; omega), List.getElem?_eq_none (by omega)]
  refine ⟨c, A, e3, by rw [← hl]; exact (back32 q).2, fun v hv => ?_⟩
  obtain ⟨i, hi, rfl⟩ := List.getElem_of_mem hv
  have := G i (by omega)
  rwa [List.getD_eq_getElem?_getD, List.getElem?_eq_getElem hi] at this
theorem Ar.len_lt (F : Ar Z h a ty vs) : vs.length < 2 ^ 31 := by obtain ⟨c, A, e, hl, hf⟩ := F; exact hl
theorem Ar.fit (F : Ar Z h a ty vs) : ∀ v ∈ vs, fits ty v = true := by obtain ⟨c, A, e, hl, hf⟩ := F; exact hf
abbrev ST : String := "java/lang/String"
/-- bytes of Latin-1 chars -/
abbrev by8 (cs : List Int32) : List Value := cs.map fun c => Value.int c.toInt8.toInt32
def Lat (cs : List Int32) : Prop := ∀ c ∈ cs, 0 ≤ c.toInt ∧ c.toInt ≤ 255
/-- a is a String of the Latin-1 chars cs, its bytes in b -/
def Str (Z : State) (h : Heap) (a b : Addr) (cs : List Int32) : Prop := Exa Z h a ST ∧ Fld Z h a ST "coder" "B" (.int 0) ∧ Fld Z h a ST "value" "[B" (.ref b) ∧ Ar Z h b .byte (by8 cs) ∧ Lat cs
theorem Str.keep {cs : List Int32} (F : Str Z h a b cs) (K : Keep h h' ws) (q : a ∉ ws) (q' : b ∉ ws) : Str Z h' a b cs := ⟨F.1.keep K, F.2.1.keep K q, F.2.2.1.keep K q, F.2.2.2.1.keep K q', F.2.2.2.2⟩
theorem Str.exa {cs : List Int32} (F : Str Z h a b cs) : Exa Z h a ST := F.1
theorem Str.cod {cs : List Int32} (F : Str Z h a b cs) : Fld Z h a ST "coder" "B" (.int 0) := F.2.1
theorem Str.val {cs : List Int32} (F : Str Z h a b cs) : Fld Z h a ST "value" "[B" (.ref b) := F.2.2.1
theorem Str.arr {cs : List Int32} (F : Str Z h a b cs) : Ar Z h b .byte (by8 cs) := F.2.2.2.1
theorem Str.lat {cs : List Int32} (F : Str Z h a b cs) : Lat cs := F.2.2.2.2
theorem Str.lt {cs : List Int32} (F : Str Z h a b cs) : a < h.size := F.1.lt
theorem Str.ltb {cs : List Int32} (F : Str Z h a b cs) : b < h.size := F.arr.lt
theorem Str.len_lt {cs : List Int32} (F : Str Z h a b cs) : cs.length < 2 ^ 31 := by simpa using F.arr.len_lt
theorem strc {cs ds : List Int32} (F : Str Z h a b cs) (q : cs = ds) : Str Z h a b ds := q ▸ F
theorem Ar.ext (E : Ext h h') (F : Ar Z h a ty vs) : Ar Z h' a ty vs := by obtain ⟨c, A, r⟩ := F; exact ⟨c, A.ext E, r⟩
theorem Str.ext {cs : List Int32} (E : Ext h h') (F : Str Z h a b cs) : Str Z h' a b cs := ⟨F.1.ext E, F.2.1.ext E, F.2.2.1.ext E, F.2.2.2.1.ext E, F.2.2.2.2⟩
abbrev ASB : String := "java/lang/AbstractStringBuilder"
/-- a is a StringBuilder that holds the Latin-1 chars cs, in the array v of length cap -/
def Sb (Z : State) (h : Heap) (a v : Addr) (cs : List Int32) (cap : Nat) : Prop := Exa Z h a "java/lang/StringBuilder" ∧ Fld Z h a ASB "value" "[B" (.ref v) ∧ Fld Z h a ASB "coder" "B" (.int 0) ∧ Fld Z h a ASB "count" "I" (.int cs.length.toInt32) ∧ Lat cs ∧ cs.length ≤ cap ∧ ∃ vs, Ar Z h v .byte vs ∧ vs.length = cap ∧ vs.take cs.length = by8 cs
theorem Sb.keep {v : Addr} {cs : List Int32} {cap : Nat} (F : Sb Z h a v cs cap) (K : Keep h h' ws) (q : a ∉ ws) (q' : v ∉ ws) : Sb Z h' a v cs cap := by
  obtain ⟨h1, h2, h3, h4, h5, h6, vs, h7, h8⟩ := F
  exact ⟨h1.keep K, h2.keep K q, h3.keep K q, h4.keep K q, h5, h6, vs, h7.keep K q', h8⟩
theorem Sb.exa {v : Addr} {cs : List Int32} {cap : Nat} (F : Sb Z h a v cs cap) : Exa Z h a "java/lang/StringBuilder" := F.1
theorem Sb.val {v : Addr} {cs : List Int32} {cap : Nat} (F : Sb Z h a v cs cap) : Fld Z h a ASB "value" "[B" (.ref v) := F.2.1
theorem Sb.cod {v : Addr} {cs : List Int32} {cap : Nat} (F : Sb Z h a v cs cap) : Fld Z h a ASB "coder" "B" (.int 0) := F.2.2.1
theorem Sb.cnt {v : Addr} {cs : List Int32} {cap : Nat} (F : Sb Z h a v cs cap) : Fld Z h a ASB "count" "I" (.int cs.length.toInt32) := F.2.2.2.1
theorem Sb.lat {v : Addr} {cs : List Int32} {cap : Nat} (F : Sb Z h a v cs cap) : Lat cs := F.2.2.2.2.1
theorem Sb.lt {v : Addr} {cs : List Int32} {cap : Nat} (F : Sb Z h a v cs cap) : a < h.size := F.1.lt
theorem Sb.ltb {v : Addr} {cs : List Int32} {cap : Nat} (F : Sb Z h a v cs cap) : v < h.size := by obtain ⟨h1, h2, h3, h4, h5, h6, vs, h7, h8⟩ := F; exact h7.lt
/-- the array at a takes objects of class C -/
def Tk (Z : State) (h : Heap) (a : Addr) (C : String) : Prop := ∃ (c : Cell) (ty : FieldType), Arr Z h a c ty ∧ Ovr Z c.cls C
theorem Tk.keep {C : String} (F : Tk Z h a C) (K : Keep h h' ws) : Tk Z h' a C := by
  obtain ⟨c, ty, ⟨h1, ⟨s1, k1, s2, comp, s3⟩, h3⟩, O⟩ := F
  obtain ⟨c', q1, q2, q3, q4⟩ := K.2.2 a c h1
  exact ⟨c', ty, ⟨q1, ⟨by rw [q3]; exact s1, k1, by rw [q2]; exact s2, comp, s3⟩, by rw [q3]; exact h3⟩, by rw [q2]; exact O⟩
theorem exa_ne_ar {C : String} {kI : Nat} (E : Exa Z h a C) (wi : (Jvm.Cond.instantiable C kI).before a0 Z = true) (A : Ar Z h b ty vs) : a ≠ b := by obtain ⟨c, A, -⟩ := A; exact ne_arr E wi A
theorem ar_ne {ty' : FieldType} {vs' : List Value} (A : Ar Z h a ty vs) (A' : Ar Z h b ty' vs') (ht : ty ≠ ty') : a ≠ b := fun q => by
  subst q
  obtain ⟨c, ⟨h1, ⟨-, k1, h2, c1, h3⟩, -⟩, -⟩ := A
  obtain ⟨c', ⟨g1, ⟨-, k2, g2, c2, g3⟩, -⟩, -⟩ := A'
  cases h1.symm.trans g1
  cases h2.symm.trans g2
  have := h3.symm.trans g3
  injection this with _ e
  exact ht e
theorem ltb {a b : Nat} (q : Nat.ble (a + 1) b = true) : a < b := Nat.le_of_ble_eq_true q
theorem leb {a b : Nat} (q : Nat.ble a b = true) : a ≤ b := Nat.le_of_ble_eq_true q
/-! where the walk stands -/
def En (Z : State) (B : Addr → Prop) (h : Heap) : Prop := Ext Z.heap h ∧ ∀ x, B x → x < h.size
def Wk (l : Launch) (Z : State) (EL : List (String × Nat)) (y : MethodName) (bytes : ByteArray) (maxL : Nat) (ret : Option FieldType) (R : Room) (B0 : Addr → Prop) (p : Program) (e : Env) (s : State) (m : MethodId) (args : Array Value) (below : List Frame) (meth : Method) (c : Code) (B : Addr → Prop) (T : State) (h : Heap) (k n : Nat) : Prop :=
  (p.tables.exec = Jvm.exec ∧ c.code = bytes ∧ c.maxLocals = maxL ∧ meth.sig.returnType = ret ∧ meth.locks = false ∧ meth.name = y.name ∧ ∃ a1, EW Z a1 EL) ∧
  En Z B h ∧ s.heap.size ≤ h.size ∧ (∀ x, B x → B0 x ∨ s.heap.size ≤ x) ∧
  ∃ (V : Vm) (locs : List Loc) (q : Nat), Stand p l e R (s.setVm V) m args below meth c T locs k n ∧ T.heap = h ∧ Z.Warmed39 V ∧ V.findClass y.cls = some m.cls ∧ s.Since V q ∧ q ≤ h.size ∧ Fr Z.heap.size locs ∧ CHv Z EL V h ∧ (∀ x, Bk Z EL V h x → B x)
def Go (l : Launch) (Z : State) (EL : List (String × Nat)) (R : Room) (B0 : Addr → Prop) (Q : Option Value → Heap → (Addr → Prop) → Prop) (p : Program) (e : Env) (s : State) (m : MethodId) (below : List Frame) (T : State) (pc : Nat) (ls : Array Slot) (st : List Value) : Prop :=
  ∃ s₂ o, Steps p.tables e below (T.setTop (mkF m pc ls st)) s₂ ∧ s₂.status = .running ∧ Ended s₂ below o ∧ ∃ v L B', o = .returned v ∧ Fr Z.heap.size L ∧ CHv Z EL s₂.vm s₂.heap ∧ (∀ x, Bk Z EL s₂.vm s₂.heap x → B' x) ∧ (∀ x, B' x → B0 x ∨ s.heap.size ≤ x) ∧ En Z B' s₂.heap ∧ s.heap.size ≤ s₂.heap.size ∧ Q v s₂.heap B' ∧ ReturnedEndW s o s₂ L R.cells R.slots
def Con (l : Launch) (Z : State) (EL : List (String × Nat)) (wl : List Jvm.Cond) (y : MethodName) (bytes : ByteArray) (maxL : Nat) (ret : Option FieldType) (rm : Room) (B : Addr → Prop) (h : Heap) (as' : Array Value) (Q : Option Value → Heap → (Addr → Prop) → Prop) : Prop :=
  MetFree l y (head1 (Jvm.Cond.code y bytes maxL ret :: wl) rm) (fun a U => a = as' ∧ Z.Warmed39 U.vm ∧ U.heap = h ∧ CHv Z EL U.vm h ∧ ∀ x, Bk Z EL U.vm h x → B x) (fun _ _ _ _ _ => True)
    (fun _ U o U' => ∃ v L B', o = .returned v ∧ Fr Z.heap.size L ∧ CHv Z EL U'.vm U'.heap ∧ (∀ x, Bk Z EL U'.vm U'.heap x → B' x) ∧ (∀ x, B' x → B x ∨ h.size ≤ x) ∧ En Z B' U'.heap ∧ h.size ≤ U'.heap.size ∧ Q v U'.heap B' ∧ ReturnedEndW U o U' L rm.cells rm.slots)
theorem Wk.hx (X : Wk l Z EL y bytes maxL ret R B0 p e s m args below meth c B T h k n) : p.tables.exec = Jvm.exec := X.1.1
theorem Wk.dec (X : Wk l Z EL y bytes maxL ret R B0 p e s m args below meth c B T h k n) {r : Except DecodeError (Instr × Nat)} (hd : decode bytes pc = r) : decode c.code pc = r := X.1.2.1 ▸ hd
theorem Wk.en (X : Wk l Z EL y bytes maxL ret R B0 p e s m args below meth c B T h k n) : En Z B h := X.2.1
theorem Wk.old (X : Wk l Z EL y bytes maxL ret R B0 p e s m args below meth c B T h k n) : Ext Z.heap h := X.2.1.1
theorem Wk.z0 (X : Wk l Z EL y bytes maxL ret R B0 p e s m args below meth c B T h k n) : Z.heap.size ≤ h.size := X.2.1.1.1
theorem Wk.zs (X : Wk l Z EL y bytes maxL ret R B0 p e s m args below meth c B T h k n) : s.heap.size ≤ h.size := X.2.2.1
theorem Wk.nb (X : Wk l Z EL y bytes maxL ret R B0 p e s m args below meth c B T h k n) (q : h.size ≤ a) : ¬ B a := fun r => absurd (X.2.1.2 a r) (Nat.not_lt.mpr q)
theorem Wk.here (X : Wk l Z EL y bytes maxL ret R B0 p e s m args below meth c B T h k n) : At T m c below := by obtain ⟨-, -, -, -, V, locs, q, X1, -⟩ := X; exact X1.here
theorem Wk.mono (X : Wk l Z EL y bytes maxL ret R B0 p e s m args below meth c B T h k n) {k' n' : Nat} (q : k ≤ k') (r : n ≤ n') : Wk l Z EL y bytes maxL ret R B0 p e s m args below meth c B T h k' n' := by
  obtain ⟨i, hE, hz, hB, V, locs, q0, X1, rest⟩ := X; exact ⟨i, hE, hz, hB, V, locs, q0, X1.mono q r, rest⟩
theorem Go.step {T' : State} {st' : List Value} (hst : ∀ t, Steps p.tables e below (T'.setTop (mkF m pc' ls' st')) t → Steps p.tables e below (T.setTop (mkF m pc ls st)) t) (g : Go l Z EL R B0 Q p e s m below T' pc' ls' st') : Go l Z EL R B0 Q p e s m below T pc ls st := by
  obtain ⟨s₂, o, h1, r⟩ := g
  exact ⟨s₂, o, hst _ h1, r⟩
theorem Go.via {T' : State} {st' : List Value} (hst : Steps p.tables e below (T.setTop (mkF m pc ls st)) (T'.setTop (mkF m pc' ls' st'))) (g : Go l Z EL R B0 Q p e s m below T' pc' ls' st') : Go l Z EL R B0 Q p e s m below T pc ls st := Go.step (fun _ r => hst.trans r) g
theorem gh (e1 : Go l Z EL R B0 Q p e s m below T pc ls st) (e2 : st = vs) : Go l Z EL R B0 Q p e s m below T pc ls vs := e2 ▸ e1

theorem W.iload (X : Wk l Z EL y bytes maxL ret R B0 p e s m args below meth c B T h k n) {j : Nat} {v : Int32} (hd : decode bytes pc = .ok (.iload j, 2)) (hl : ls[j]? = some (.val (.int v))) (hp : pc + 2 = pc') (g : Go l Z EL R B0 Q p e s m below T pc' ls (.int v :: st)) : Go l Z EL R B0 Q p e s m below T pc ls st := by
  subst hp; exact Go.step (fun t hr => XS.iload X.here X.hx rfl (X.dec hd) hl hr) g
theorem W.iloadN (X : Wk l Z EL y bytes maxL ret R B0 p e s m args below meth c B T h k n) {j : Fin 4} {v : Int32} (hd : decode bytes pc = .ok (.iload_n j, 1)) (hl : ls[j.val]? = some (.val (.int v))) (hp : pc + 1 = pc') (g : Go l Z EL R B0 Q p e s m below T pc' ls (.int v :: st)) : Go l Z EL R B0 Q p e s m below T pc ls st := by
  subst hp; exact Go.step (fun t hr => XS.iloadN X.here X.hx rfl (X.dec hd) hl hr) g
theorem W.istore (X : Wk l Z EL y bytes maxL ret R B0 p e s m args below meth c B T h k n) {j : Nat} {v : Int32} (hd : decode bytes pc = .ok (.istore j, 2)) (hl : storeLocals ls j (.int v) = some ls') (hp : pc + 2 = pc') (g : Go l Z EL R B0 Q p e s m below T pc' ls' st) : Go l Z EL R B0 Q p e s m below T pc ls (.int v :: st) := by
  subst hp; exact Go.step (fun t hr => XS.istore X.here X.hx rfl (X.dec hd) rfl hl hr) g
theorem W.istoreN (X : Wk l Z EL y bytes maxL ret R B0 p e s m args below meth c B T h k n) {j : Fin 4} {v : Int32} (hd : decode bytes pc = .ok (.istore_n j, 1)) (hl : storeLocals ls j.val (.int v) = some ls') (hp : pc + 1 = pc') (g : Go l Z EL R B0 Q p e s m below T pc' ls' st) : Go l Z EL R B0 Q p e s m below T pc ls (.int v :: st) := by
  subst hp; exact Go.step (fun t hr => XS.istoreN X.here X.hx rfl (X.dec hd) rfl hl hr) g
theorem W.lload (X : Wk l Z EL y bytes maxL ret R B0 p e s m args below meth c B T h k n) {j : Nat} {v : Int64} (hd : decode bytes pc = .ok (.lload j, 2)) (hl : ls[j]? = some (.val (.long v))) (hp : pc + 2 = pc') (g : Go l Z EL R B0 Q p e s m below T pc' ls (.long v :: st)) : Go l Z EL R B0 Q p e s m below T pc ls st := by
  subst hp; exact Go.step (fun t hr => XT.lload X.here X.hx rfl (X.dec hd) hl hr) g
theorem W.lloadN (X : Wk l Z EL y bytes maxL ret R B0 p e s m args below meth c B T h k n) {j : Fin 4} {v : Int64} (hd : decode bytes pc = .ok (.lload_n j, 1)) (hl : ls[j.val]? = some (.val (.long v))) (hp : pc + 1 = pc') (g : Go l Z EL R B0 Q p e s m below T pc' ls (.long v :: st)) : Go l Z EL R B0 Q p e s m below T pc ls st := by
  subst hp; exact Go.step (fun t hr => XT.lloadN X.here X.hx rfl (X.dec hd) hl hr) g
theorem W.lstore (X : Wk l Z EL y bytes maxL ret R B0 p e s m args below meth c B T h k n) {j : Nat} {v : Int64} (hd : decode bytes pc = .ok (.lstore j, 2)) (hl : storeLocals ls j (.long v) = some ls') (hp : pc + 2 = pc') (g : Go l Z EL R B0 Q p e s m below T pc' ls' st) : Go l Z EL R B0 Q p e s m below T pc ls (.long v :: st) := by
  subst hp; exact Go.step (fun t hr => XT.lstore X.here X.hx rfl (X.dec hd) rfl hl hr) g
theorem W.lstoreN (X : Wk l Z EL y bytes maxL ret R B0 p e s m args below meth c B T h k n) {j : Fin 4} {v : Int64} (hd : decode bytes pc = .ok (.lstore_n j, 1)) (hl : storeLocals ls j.val (.long v) = some ls') (hp : pc + 1 = pc') (g : Go l Z EL R B0 Q p e s m below T pc' ls' st) : Go l Z EL R B0 Q p e s m below T pc ls (.long v :: st) := by
  subst hp; exact Go.step (fun t hr => XT.lstoreN X.here X.hx rfl (X.dec hd) rfl hl hr) g
theorem W.aload (X : Wk l Z EL y bytes maxL ret R B0 p e s m args below meth c B T h k n) {j : Nat} {v : Value} (hd : decode bytes pc = .ok (.aload j, 2)) (hl : ls[j]? = some (.val v)) (hv : v.isRef = true) (hp : pc + 2 = pc') (g : Go l Z EL R B0 Q p e s m below T pc' ls (v :: st)) : Go l Z EL R B0 Q p e s m below T pc ls st := by
  subst hp; exact Go.step (fun t hr => XS.aload X.here X.hx rfl (X.dec hd) hl hv hr) g
theorem W.aloadN (X : Wk l Z EL y bytes maxL ret R B0 p e s m args below meth c B T h k n) {j : Fin 4} {v : Value} (hd : decode bytes pc = .ok (.aload_n j, 1)) (hl : ls[j.val]? = some (.val v)) (hv : v.isRef = true) (hp : pc + 1 = pc') (g : Go l Z EL R B0 Q p e s m below T pc' ls (v :: st)) : Go l Z EL R B0 Q p e s m below T pc ls st := by
  subst hp; exact Go.step (fun t hr => XS.aloadN X.here X.hx rfl (X.dec hd) hl hv hr) g
theorem W.astore (X : Wk l Z EL y bytes maxL ret R B0 p e s m args below meth c B T h k n) {j : Nat} {v : Value} (hd : decode bytes pc = .ok (.astore j, 2)) (hv : v.isRef = true) (hl : storeLocals ls j v = some ls') (hp : pc + 2 = pc') (g : Go l Z EL R B0 Q p e s m below T pc' ls' st) : Go l Z EL R B0 Q p e s m below T pc ls (v :: st) := by
  subst hp; exact Go.step (fun t hr => XS.astore X.here X.hx rfl (X.dec hd) rfl hv hl hr) g
theorem W.astoreN (X : Wk l Z EL y bytes maxL ret R B0 p e s m args below meth c B T h k n) {j : Fin 4} {v : Value} (hd : decode bytes pc = .ok (.astore_n j, 1)) (hv : v.isRef = true) (hl : storeLocals ls j.val v = some ls') (hp : pc + 1 = pc') (g : Go l Z EL R B0 Q p e s m below T pc' ls' st) : Go l Z EL R B0 Q p e s m below T pc ls (v :: st) := by
  subst hp; exact Go.step (fun t hr => XS.astoreN X.here X.hx rfl (X.dec hd) rfl hv hl hr) g
theorem W.iconst (X : Wk l Z EL y bytes maxL ret R B0 p e s m args below meth c B T h k n) {i : Int} (v : Int32) (hd : decode bytes pc = .ok (.iconst i, 1)) (hv : Int32.ofInt i = v) (hp : pc + 1 = pc') (g : Go l Z EL R B0 Q p e s m below T pc' ls (.int v :: st)) : Go l Z EL R B0 Q p e s m below T pc ls st := by
  subst hp; exact Go.step (fun t hr => XT.iconstV X.here X.hx rfl v (X.dec hd) hv hr) g
theorem W.bipush (X : Wk l Z EL y bytes maxL ret R B0 p e s m args below meth c B T h k n) {i : Int} (v : Int32) (hd : decode bytes pc = .ok (.bipush i, 2)) (hv : (Int8.ofInt i).toInt32 = v) (hp : pc + 2 = pc') (g : Go l Z EL R B0 Q p e s m below T pc' ls (.int v :: st)) : Go l Z EL R B0 Q p e s m below T pc ls st := by
  subst hp; exact Go.step (fun t hr => XT.bipushV X.here X.hx rfl v (X.dec hd) hv hr) g
theorem W.sipush (X : Wk l Z EL y bytes maxL ret R B0 p e s m args below meth c B T h k n) {i : Int} (v : Int32) (hd : decode bytes pc = .ok (.sipush i, 3)) (hv : (Int16.ofInt i).toInt32 = v) (hp : pc + 3 = pc') (g : Go l Z EL R B0 Q p e s m below T pc' ls (.int v :: st)) : Go l Z EL R B0 Q p e s m below T pc ls st := by
  subst hp; exact Go.step (fun t hr => XT.sipushV X.here X.hx rfl v (X.dec hd) hv hr) g
theorem W.lconst (X : Wk l Z EL y bytes maxL ret R B0 p e s m args below meth c B T h k n) {i : Fin 2} (v : Int64) (hd : decode bytes pc = .ok (.lconst i, 1)) (hv : Int64.ofNat i = v) (hp : pc + 1 = pc') (g : Go l Z EL R B0 Q p e s m below T pc' ls (.long v :: st)) : Go l Z EL R B0 Q p e s m below T pc ls st := by
  subst hp; exact Go.step (fun t hr => XT.lconstV X.here X.hx rfl v (X.dec hd) hv hr) g
theorem W.aconst_null (X : Wk l Z EL y bytes maxL ret R B0 p e s m args below meth c B T h k n)  (hd : decode bytes pc = .ok (.aconst_null, 1))  (hp : pc + 1 = pc') (g : Go l Z EL R B0 Q p e s m below T pc' ls (.null :: st)) : Go l Z EL R B0 Q p e s m below T pc ls st := by
  subst hp; exact Go.step (fun t hr => XS.aconstNull X.here X.hx rfl (X.dec hd) hr) g
theorem W.iadd (X : Wk l Z EL y bytes maxL ret R B0 p e s m args below meth c B T h k n) {x z : Int32} {w : Int32} (hd : decode bytes pc = .ok (.iadd, 1)) (hw : x + z = w) (hp : pc + 1 = pc') (g : Go l Z EL R B0 Q p e s m below T pc' ls (.int w :: st)) : Go l Z EL R B0 Q p e s m below T pc ls (.int z :: .int x :: st) := by
  subst hp; exact Go.step (fun t hr => by subst hw; exact XS.iadd X.here X.hx rfl (X.dec hd) rfl hr) g
theorem W.isub (X : Wk l Z EL y bytes maxL ret R B0 p e s m args below meth c B T h k n) {x z : Int32} {w : Int32} (hd : decode bytes pc = .ok (.isub, 1)) (hw : x - z = w) (hp : pc + 1 = pc') (g : Go l Z EL R B0 Q p e s m below T pc' ls (.int w :: st)) : Go l Z EL R B0 Q p e s m below T pc ls (.int z :: .int x :: st) := by
  subst hp; exact Go.step (fun t hr => by subst hw; exact XS.isub X.here X.hx rfl (X.dec hd) rfl hr) g
theorem W.iand (X : Wk l Z EL y bytes maxL ret R B0 p e s m args below meth c B T h k n) {x z : Int32} {w : Int32} (hd : decode bytes pc = .ok (.iand, 1)) (hw : x &&& z = w) (hp : pc + 1 = pc') (g : Go l Z EL R B0 Q p e s m below T pc' ls (.int w :: st)) : Go l Z EL R B0 Q p e s m below T pc ls (.int z :: .int x :: st) := by
  subst hp; exact Go.step (fun t hr => by subst hw; exact XS.iand X.here X.hx rfl (X.dec hd) rfl hr) g
theorem W.imul (X : Wk l Z EL y bytes maxL ret R B0 p e s m args below meth c B T h k n) {x z : Int32} {w : Int32} (hd : decode bytes pc = .ok (.imul, 1)) (hw : x * z = w) (hp : pc + 1 = pc') (g : Go l Z EL R B0 Q p e s m below T pc' ls (.int w :: st)) : Go l Z EL R B0 Q p e s m below T pc ls (.int z :: .int x :: st) := by
  subst hp; exact Go.step (fun t hr => by subst hw; exact XS.imul X.here X.hx rfl (X.dec hd) rfl hr) g
theorem W.ixor (X : Wk l Z EL y bytes maxL ret R B0 p e s m args below meth c B T h k n) {x z : Int32} {w : Int32} (hd : decode bytes pc = .ok (.ixor, 1)) (hw : x ^^^ z = w) (hp : pc + 1 = pc') (g : Go l Z EL R B0 Q p e s m below T pc' ls (.int w :: st)) : Go l Z EL R B0 Q p e s m below T pc ls (.int z :: .int x :: st) := by
  subst hp; exact Go.step (fun t hr => by subst hw; exact XT.ixor X.here X.hx rfl (X.dec hd) rfl hr) g
theorem W.ior (X : Wk l Z EL y bytes maxL ret R B0 p e s m args below meth c B T h k n) {x z : Int32} {w : Int32} (hd : decode bytes pc = .ok (.ior, 1)) (hw : x ||| z = w) (hp : pc + 1 = pc') (g : Go l Z EL R B0 Q p e s m below T pc' ls (.int w :: st)) : Go l Z EL R B0 Q p e s m below T pc ls (.int z :: .int x :: st) := by
  subst hp; exact Go.step (fun t hr => by subst hw; exact XT.ior X.here X.hx rfl (X.dec hd) rfl hr) g
theorem W.ishl (X : Wk l Z EL y bytes maxL ret R B0 p e s m args below meth c B T h k n) {x z : Int32} {w : Int32} (hd : decode bytes pc = .ok (.ishl, 1)) (hw : x <<< (z &&& 31) = w) (hp : pc + 1 = pc') (g : Go l Z EL R B0 Q p e s m below T pc' ls (.int w :: st)) : Go l Z EL R B0 Q p e s m below T pc ls (.int z :: .int x :: st) := by
  subst hp; exact Go.step (fun t hr => by subst hw; exact XT.ishl X.here X.hx rfl (X.dec hd) rfl hr) g
theorem W.ishr (X : Wk l Z EL y bytes maxL ret R B0 p e s m args below meth c B T h k n) {x z : Int32} {w : Int32} (hd : decode bytes pc = .ok (.ishr, 1)) (hw : x >>> (z &&& 31) = w) (hp : pc + 1 = pc') (g : Go l Z EL R B0 Q p e s m below T pc' ls (.int w :: st)) : Go l Z EL R B0 Q p e s m below T pc ls (.int z :: .int x :: st) := by
  subst hp; exact Go.step (fun t hr => by subst hw; exact XT.ishr X.here X.hx rfl (X.dec hd) rfl hr) g
theorem W.iushr (X : Wk l Z EL y bytes maxL ret R B0 p e s m args below meth c B T h k n) {x z : Int32} {w : Int32} (hd : decode bytes pc = .ok (.iushr, 1)) (hw : XT.ushr x z = w) (hp : pc + 1 = pc') (g : Go l Z EL R B0 Q p e s m below T pc' ls (.int w :: st)) : Go l Z EL R B0 Q p e s m below T pc ls (.int z :: .int x :: st) := by
  subst hp; exact Go.step (fun t hr => by subst hw; exact XT.iushr X.here X.hx rfl (X.dec hd) rfl hr) g
theorem W.idiv (X : Wk l Z EL y bytes maxL ret R B0 p e s m args below meth c B T h k n) {x z : Int32} {w : Int32} (hd : decode bytes pc = .ok (.idiv, 1)) (hz : z ≠ 0) (hw : x / z = w) (hp : pc + 1 = pc') (g : Go l Z EL R B0 Q p e s m below T pc' ls (.int w :: st)) : Go l Z EL R B0 Q p e s m below T pc ls (.int z :: .int x :: st) := by
  subst hp; exact Go.step (fun t hr => by subst hw; exact XS.idiv X.here X.hx rfl (X.dec hd) rfl hz hr) g
theorem W.irem (X : Wk l Z EL y bytes maxL ret R B0 p e s m args below meth c B T h k n) {x z : Int32} {w : Int32} (hd : decode bytes pc = .ok (.irem, 1)) (hz : z ≠ 0) (hw : x % z = w) (hp : pc + 1 = pc') (g : Go l Z EL R B0 Q p e s m below T pc' ls (.int w :: st)) : Go l Z EL R B0 Q p e s m below T pc ls (.int z :: .int x :: st) := by
  subst hp; exact Go.step (fun t hr => by subst hw; exact XS.irem X.here X.hx rfl (X.dec hd) rfl hz (by rw [Jvm.irem_eq_mod]; exact hr)) g
theorem W.ineg (X : Wk l Z EL y bytes maxL ret R B0 p e s m args below meth c B T h k n) {x : Int32} {w : Int32} (hd : decode bytes pc = .ok (.ineg, 1)) (hw : -x = w) (hp : pc + 1 = pc') (g : Go l Z EL R B0 Q p e s m below T pc' ls (.int w :: st)) : Go l Z EL R B0 Q p e s m below T pc ls (.int x :: st) := by
  subst hp; exact Go.step (fun t hr => by subst hw; exact XS.ineg X.here X.hx rfl (X.dec hd) rfl hr) g
theorem W.ladd (X : Wk l Z EL y bytes maxL ret R B0 p e s m args below meth c B T h k n) {x z : Int64} {w : Int64} (hd : decode bytes pc = .ok (.ladd, 1)) (hw : x + z = w) (hp : pc + 1 = pc') (g : Go l Z EL R B0 Q p e s m below T pc' ls (.long w :: st)) : Go l Z EL R B0 Q p e s m below T pc ls (.long z :: .long x :: st) := by
  subst hp; exact Go.step (fun t hr => by subst hw; exact XT.ladd X.here X.hx rfl (X.dec hd) rfl hr) g
theorem W.lsub (X : Wk l Z EL y bytes maxL ret R B0 p e s m args below meth c B T h k n) {x z : Int64} {w : Int64} (hd : decode bytes pc = .ok (.lsub, 1)) (hw : x - z = w) (hp : pc + 1 = pc') (g : Go l Z EL R B0 Q p e s m below T pc' ls (.long w :: st)) : Go l Z EL R B0 Q p e s m below T pc ls (.long z :: .long x :: st) := by
  subst hp; exact Go.step (fun t hr => by subst hw; exact XT.lsub X.here X.hx rfl (X.dec hd) rfl hr) g
theorem W.land (X : Wk l Z EL y bytes maxL ret R B0 p e s m args below meth c B T h k n) {x z : Int64} {w : Int64} (hd : decode bytes pc = .ok (.land, 1)) (hw : x &&& z = w) (hp : pc + 1 = pc') (g : Go l Z EL R B0 Q p e s m below T pc' ls (.long w :: st)) : Go l Z EL R B0 Q p e s m below T pc ls (.long z :: .long x :: st) := by
  subst hp; exact Go.step (fun t hr => by subst hw; exact XT.land X.here X.hx rfl (X.dec hd) rfl hr) g
theorem W.lmul (X : Wk l Z EL y bytes maxL ret R B0 p e s m args below meth c B T h k n) {x z : Int64} {w : Int64} (hd : decode bytes pc = .ok (.lmul, 1)) (hw : x * z = w) (hp : pc + 1 = pc') (g : Go l Z EL R B0 Q p e s m below T pc' ls (.long w :: st)) : Go l Z EL R B0 Q p e s m below T pc ls (.long z :: .long x :: st) := by
  subst hp; exact Go.step (fun t hr => by subst hw; exact XT.lmul X.here X.hx rfl (X.dec hd) rfl hr) g
theorem W.lor (X : Wk l Z EL y bytes maxL ret R B0 p e s m args below meth c B T h k n) {x z : Int64} {w : Int64} (hd : decode bytes pc = .ok (.lor, 1)) (hw : x ||| z = w) (hp : pc + 1 = pc') (g : Go l Z EL R B0 Q p e s m below T pc' ls (.long w :: st)) : Go l Z EL R B0 Q p e s m below T pc ls (.long z :: .long x :: st) := by
  subst hp; exact Go.step (fun t hr => by subst hw; exact XT.lor X.here X.hx rfl (X.dec hd) rfl hr) g
theorem W.ldiv (X : Wk l Z EL y bytes maxL ret R B0 p e s m args below meth c B T h k n) {x z : Int64} {w : Int64} (hd : decode bytes pc = .ok (.ldiv, 1)) (hz : z ≠ 0) (hw : x / z = w) (hp : pc + 1 = pc') (g : Go l Z EL R B0 Q p e s m below T pc' ls (.long w :: st)) : Go l Z EL R B0 Q p e s m below T pc ls (.long z :: .long x :: st) := by
  subst hp; exact Go.step (fun t hr => by subst hw; exact XT.ldiv X.here X.hx rfl (X.dec hd) rfl hz hr) g
theorem W.lrem (X : Wk l Z EL y bytes maxL ret R B0 p e s m args below meth c B T h k n) {x z : Int64} {w : Int64} (hd : decode bytes pc = .ok (.lrem, 1)) (hz : z ≠ 0) (hw : x - (x / z) * z = w) (hp : pc + 1 = pc') (g : Go l Z EL R B0 Q p e s m below T pc' ls (.long w :: st)) : Go l Z EL R B0 Q p e s m below T pc ls (.long z :: .long x :: st) := by
  subst hp; exact Go.step (fun t hr => by subst hw; exact XT.lrem X.here X.hx rfl (X.dec hd) rfl hz hr) g
theorem W.lneg (X : Wk l Z EL y bytes maxL ret R B0 p e s m args below meth c B T h k n) {x : Int64} {w : Int64} (hd : decode bytes pc = .ok (.lneg, 1)) (hw : -x = w) (hp : pc + 1 = pc') (g : Go l Z EL R B0 Q p e s m below T pc' ls (.long w :: st)) : Go l Z EL R B0 Q p e s m below T pc ls (.long x :: st) := by
  subst hp; exact Go.step (fun t hr => by subst hw; exact XT.lneg X.here X.hx rfl (X.dec hd) rfl hr) g
theorem W.lushr (X : Wk l Z EL y bytes maxL ret R B0 p e s m args below meth c B T h k n) {x : Int64} {z : Int32} {w : Int64} (hd : decode bytes pc = .ok (.lushr, 1)) (hw : XT.ushrL x z = w) (hp : pc + 1 = pc') (g : Go l Z EL R B0 Q p e s m below T pc' ls (.long w :: st)) : Go l Z EL R B0 Q p e s m below T pc ls (.int z :: .long x :: st) := by
  subst hp; exact Go.step (fun t hr => by subst hw; exact XT.lushr X.here X.hx rfl (X.dec hd) rfl hr) g
theorem W.lcmp (X : Wk l Z EL y bytes maxL ret R B0 p e s m args below meth c B T h k n) {x z : Int64} {w : Int32} (hd : decode bytes pc = .ok (.lcmp, 1)) (hw : XT.cmpL x z = w) (hp : pc + 1 = pc') (g : Go l Z EL R B0 Q p e s m below T pc' ls (.int w :: st)) : Go l Z EL R B0 Q p e s m below T pc ls (.long z :: .long x :: st) := by
  subst hp; exact Go.step (fun t hr => by subst hw; exact XT.lcmp X.here X.hx rfl (X.dec hd) rfl hr) g
theorem W.i2l (X : Wk l Z EL y bytes maxL ret R B0 p e s m args below meth c B T h k n) {x : Int32} {w : Int64} (hd : decode bytes pc = .ok (.i2l, 1)) (hw : x.toInt64 = w) (hp : pc + 1 = pc') (g : Go l Z EL R B0 Q p e s m below T pc' ls (.long w :: st)) : Go l Z EL R B0 Q p e s m below T pc ls (.int x :: st) := by
  subst hp; exact Go.step (fun t hr => by subst hw; exact XT.i2l X.here X.hx rfl (X.dec hd) rfl hr) g
theorem W.l2i (X : Wk l Z EL y bytes maxL ret R B0 p e s m args below meth c B T h k n) {x : Int64} {w : Int32} (hd : decode bytes pc = .ok (.l2i, 1)) (hw : x.toInt32 = w) (hp : pc + 1 = pc') (g : Go l Z EL R B0 Q p e s m below T pc' ls (.int w :: st)) : Go l Z EL R B0 Q p e s m below T pc ls (.long x :: st) := by
  subst hp; exact Go.step (fun t hr => by subst hw; exact XT.l2i X.here X.hx rfl (X.dec hd) rfl hr) g
theorem W.i2b (X : Wk l Z EL y bytes maxL ret R B0 p e s m args below meth c B T h k n) {x : Int32} {w : Int32} (hd : decode bytes pc = .ok (.i2b, 1)) (hw : x.toInt8.toInt32 = w) (hp : pc + 1 = pc') (g : Go l Z EL R B0 Q p e s m below T pc' ls (.int w :: st)) : Go l Z EL R B0 Q p e s m below T pc ls (.int x :: st) := by
  subst hp; exact Go.step (fun t hr => by subst hw; exact XT.i2b X.here X.hx rfl (X.dec hd) rfl hr) g
theorem W.i2c (X : Wk l Z EL y bytes maxL ret R B0 p e s m args below meth c B T h k n) {x : Int32} {w : Int32} (hd : decode bytes pc = .ok (.i2c, 1)) (hw : x.toUInt32.toUInt16.toUInt32.toInt32 = w) (hp : pc + 1 = pc') (g : Go l Z EL R B0 Q p e s m below T pc' ls (.int w :: st)) : Go l Z EL R B0 Q p e s m below T pc ls (.int x :: st) := by
  subst hp; exact Go.step (fun t hr => by subst hw; exact XT.i2c X.here X.hx rfl (X.dec hd) rfl hr) g
theorem W.iinc (X : Wk l Z EL y bytes maxL ret R B0 p e s m args below meth c B T h k n) {j : Nat} {cst : Int} {x : Int32} (v : Int32) {w : Int32} (hd : decode bytes pc = .ok (.iinc j cst, 3)) (hv : Int32.ofInt cst = v) (hl : ls[j]? = some (.val (.int x))) (hw : x + v = w) (hl' : storeLocals ls j (.int w) = some ls') (hp : pc + 3 = pc') (g : Go l Z EL R B0 Q p e s m below T pc' ls' st) : Go l Z EL R B0 Q p e s m below T pc ls st := by
  subst hp; exact Go.step (fun t hr => by subst hw; exact XT.iincV X.here X.hx rfl v (X.dec hd) hv hl hl' hr) g
theorem W.popV (X : Wk l Z EL y bytes maxL ret R B0 p e s m args below meth c B T h k n) {v : Value} (hd : decode bytes pc = .ok (.pop, 1)) (hc : v.category = 1) (hp : pc + 1 = pc') (g : Go l Z EL R B0 Q p e s m below T pc' ls st) : Go l Z EL R B0 Q p e s m below T pc ls (v :: st) := by
  subst hp; exact Go.step (fun t hr => XT.pop X.here X.hx rfl (X.dec hd) rfl hc hr) g
theorem W.dup (X : Wk l Z EL y bytes maxL ret R B0 p e s m args below meth c B T h k n) {v : Value} (hd : decode bytes pc = .ok (.dup, 1)) (hc : v.category = 1) (hp : pc + 1 = pc') (g : Go l Z EL R B0 Q p e s m below T pc' ls (v :: v :: st)) : Go l Z EL R B0 Q p e s m below T pc ls (v :: st) := by
  subst hp; exact Go.step (fun t hr => XS.dup X.here X.hx rfl (X.dec hd) rfl hc hr) g
theorem W.dup_x1 (X : Wk l Z EL y bytes maxL ret R B0 p e s m args below meth c B T h k n) {v w : Value} (hd : decode bytes pc = .ok (.dup_x1, 1)) (hc : v.category = 1) (hc' : w.category = 1) (hp : pc + 1 = pc') (g : Go l Z EL R B0 Q p e s m below T pc' ls (v :: w :: v :: st)) : Go l Z EL R B0 Q p e s m below T pc ls (v :: w :: st) := by
  subst hp; exact Go.step (fun t hr => XT.dupX1 X.here X.hx rfl (X.dec hd) rfl hc hc' hr) g
theorem W.dup2 (X : Wk l Z EL y bytes maxL ret R B0 p e s m args below meth c B T h k n) {v w : Value} (hd : decode bytes pc = .ok (.dup2, 1)) (hc : v.category = 1) (hc' : w.category = 1) (hp : pc + 1 = pc') (g : Go l Z EL R B0 Q p e s m below T pc' ls (v :: w :: v :: w :: st)) : Go l Z EL R B0 Q p e s m below T pc ls (v :: w :: st) := by
  subst hp; exact Go.step (fun t hr => XT.dup2 X.here X.hx rfl (X.dec hd) rfl hc hc' hr) g
theorem W.dup2L (X : Wk l Z EL y bytes maxL ret R B0 p e s m args below meth c B T h k n) {v : Int64} (hd : decode bytes pc = .ok (.dup2, 1))  (hp : pc + 1 = pc') (g : Go l Z EL R B0 Q p e s m below T pc' ls (.long v :: .long v :: st)) : Go l Z EL R B0 Q p e s m below T pc ls (.long v :: st) := by
  subst hp; exact Go.step (fun t hr => XT.dup2L X.here X.hx rfl (X.dec hd) rfl hr) g
theorem W.goto (X : Wk l Z EL y bytes maxL ret R B0 p e s m args below meth c B T h k n)  {o : Int} (hd : decode bytes pc = .ok (.goto o, 3))  (ho : 0 ≤ (pc : Int) + o) (hp : ((pc : Int) + o).toNat = pc') (g : Go l Z EL R B0 Q p e s m below T pc' ls st) : Go l Z EL R B0 Q p e s m below T pc ls st :=
  Go.step (fun t hr => XS.goto X.here X.hx rfl rfl (X.dec hd) ho hp hr) g
theorem W.ifT (X : Wk l Z EL y bytes maxL ret R B0 p e s m args below meth c B T h k n) {cd : ClassFile.Cond} {x : Int32} {o : Int} (hd : decode bytes pc = .ok (.ifCond cd o, 3)) (hc : ifCond.holds cd x = true) (ho : 0 ≤ (pc : Int) + o) (hp : ((pc : Int) + o).toNat = pc') (g : Go l Z EL R B0 Q p e s m below T pc' ls st) : Go l Z EL R B0 Q p e s m below T pc ls (.int x :: st) :=
  Go.step (fun t hr => XS.ifYes X.here X.hx rfl rfl (X.dec hd) rfl hc ho hp hr) g
theorem W.ifF (X : Wk l Z EL y bytes maxL ret R B0 p e s m args below meth c B T h k n) {cd : ClassFile.Cond} {o : Int} {x : Int32} (hd : decode bytes pc = .ok (.ifCond cd o, 3)) (hc : ifCond.holds cd x = false) (hp : pc + 3 = pc') (g : Go l Z EL R B0 Q p e s m below T pc' ls st) : Go l Z EL R B0 Q p e s m below T pc ls (.int x :: st) := by
  subst hp; exact Go.step (fun t hr => XS.ifNo X.here X.hx rfl (X.dec hd) rfl hc hr) g
theorem W.icT (X : Wk l Z EL y bytes maxL ret R B0 p e s m args below meth c B T h k n) {cd : ClassFile.Cond} {x z : Int32} {o : Int} (hd : decode bytes pc = .ok (.if_icmp cd o, 3)) (hc : if_icmp.holds cd x z = true) (ho : 0 ≤ (pc : Int) + o) (hp : ((pc : Int) + o).toNat = pc') (g : Go l Z EL R B0 Q p e s m below T pc' ls st) : Go l Z EL R B0 Q p e s m below T pc ls (.int z :: .int x :: st) :=
  Go.step (fun t hr => XS.icmpYes X.here X.hx rfl rfl (X.dec hd) rfl hc ho hp hr) g
theorem W.icF (X : Wk l Z EL y bytes maxL ret R B0 p e s m args below meth c B T h k n) {cd : ClassFile.Cond} {o : Int} {x z : Int32} (hd : decode bytes pc = .ok (.if_icmp cd o, 3)) (hc : if_icmp.holds cd x z = false) (hp : pc + 3 = pc') (g : Go l Z EL R B0 Q p e s m below T pc' ls st) : Go l Z EL R B0 Q p e s m below T pc ls (.int z :: .int x :: st) := by
  subst hp; exact Go.step (fun t hr => XS.icmpNo X.here X.hx rfl (X.dec hd) rfl hc hr) g
theorem W.acT (X : Wk l Z EL y bytes maxL ret R B0 p e s m args below meth c B T h k n) {cd : ClassFile.ACond} {x z : Value} {o : Int} (hd : decode bytes pc = .ok (.if_acmp cd o, 3)) (h1 : x.isRef = true) (h2 : z.isRef = true) (hc : XT.acmp cd x z = true) (ho : 0 ≤ (pc : Int) + o) (hp : ((pc : Int) + o).toNat = pc') (g : Go l Z EL R B0 Q p e s m below T pc' ls st) : Go l Z EL R B0 Q p e s m below T pc ls (z :: x :: st) :=
  Go.step (fun t hr => XT.acmpYes X.here X.hx rfl rfl (X.dec hd) rfl h1 h2 hc ho hp hr) g
theorem W.acF (X : Wk l Z EL y bytes maxL ret R B0 p e s m args below meth c B T h k n) {cd : ClassFile.ACond} {o : Int} {x z : Value} (hd : decode bytes pc = .ok (.if_acmp cd o, 3)) (h1 : x.isRef = true) (h2 : z.isRef = true) (hc : XT.acmp cd x z = false) (hp : pc + 3 = pc') (g : Go l Z EL R B0 Q p e s m below T pc' ls st) : Go l Z EL R B0 Q p e s m below T pc ls (z :: x :: st) := by
  subst hp; exact Go.step (fun t hr => XT.acmpNo X.here X.hx rfl (X.dec hd) rfl h1 h2 hc hr) g
theorem W.nullT (X : Wk l Z EL y bytes maxL ret R B0 p e s m args below meth c B T h k n)  {o : Int} (hd : decode bytes pc = .ok (.ifnull o, 3))  (ho : 0 ≤ (pc : Int) + o) (hp : ((pc : Int) + o).toNat = pc') (g : Go l Z EL R B0 Q p e s m below T pc' ls st) : Go l Z EL R B0 Q p e s m below T pc ls (.null :: st) :=
  Go.step (fun t hr => XS.ifnullYes X.here X.hx rfl rfl (X.dec hd) rfl ho hp hr) g
theorem W.nullF (X : Wk l Z EL y bytes maxL ret R B0 p e s m args below meth c B T h k n) {o : Int} {r : Addr} (hd : decode bytes pc = .ok (.ifnull o, 3))  (hp : pc + 3 = pc') (g : Go l Z EL R B0 Q p e s m below T pc' ls st) : Go l Z EL R B0 Q p e s m below T pc ls (.ref r :: st) := by
  subst hp; exact Go.step (fun t hr => XS.ifnullNo X.here X.hx rfl (X.dec hd) rfl hr) g
theorem W.nonnullT (X : Wk l Z EL y bytes maxL ret R B0 p e s m args below meth c B T h k n) {r : Addr} {o : Int} (hd : decode bytes pc = .ok (.ifnonnull o, 3))  (ho : 0 ≤ (pc : Int) + o) (hp : ((pc : Int) + o).toNat = pc') (g : Go l Z EL R B0 Q p e s m below T pc' ls st) : Go l Z EL R B0 Q p e s m below T pc ls (.ref r :: st) :=
  Go.step (fun t hr => XT.ifnonnullYes X.here X.hx rfl rfl (X.dec hd) rfl ho hp hr) g
theorem W.nonnullF (X : Wk l Z EL y bytes maxL ret R B0 p e s m args below meth c B T h k n) {o : Int} (hd : decode bytes pc = .ok (.ifnonnull o, 3))  (hp : pc + 3 = pc') (g : Go l Z EL R B0 Q p e s m below T pc' ls st) : Go l Z EL R B0 Q p e s m below T pc ls (.null :: st) := by
  subst hp; exact Go.step (fun t hr => XT.ifnonnullNo X.here X.hx rfl (X.dec hd) rfl hr) g
theorem W.tsw (X : Wk l Z EL y bytes maxL ret R B0 p e s m args below meth c B T h k n) {dflt low high : Int} {offs : Array Int} {len : Nat} {o : Int} {i : Int32} (hd : decode bytes pc = .ok (.tableswitch dflt low high offs, len)) (hin : ¬ (i.toInt < low ∨ i.toInt > high)) (hoff : offs[(i.toInt - low).toNat]? = some o) (ho : 0 ≤ (pc : Int) + o) (hp : ((pc : Int) + o).toNat = pc') (g : Go l Z EL R B0 Q p e s m below T pc' ls st) : Go l Z EL R B0 Q p e s m below T pc ls (.int i :: st) :=
  Go.step (fun t hr => XS.tswIn X.here X.hx rfl rfl (X.dec hd) rfl hin hoff ho hp hr) g
theorem W.ldcI (X : Wk l Z EL y bytes maxL ret R B0 p e s m args below meth c B T h k n) {index : Nat} {v : Int32} (w : (Jvm.Cond.constant y.cls index v).before a0 Z = true) (hd : decode bytes pc = .ok (.ldc index, 2)) (hp : pc + 2 = pc') (g : Go l Z EL R B0 Q p e s m below T pc' ls (.int v :: st)) : Go l Z EL R B0 Q p e s m below T pc ls st := by
  obtain ⟨i0, hE, hz, hB, V, locs, q0, X1, eT, hZ, hown, hS, hq, hF, hC, hK⟩ := X
  subst hp
  exact Go.step (fun t hr => Jvm.Stand.ldcI (g := mkF m pc ls st) X1 i0.1 hown (mv (s := s.setVm V) hZ w) rfl (i0.2.1 ▸ hd) hr) g
theorem W.ldcJ (X : Wk l Z EL y bytes maxL ret R B0 p e s m args below meth c B T h k n) {index : Nat} {v : Int64} (w : (Jvm.Cond.constantLong y.cls index v).before a0 Z = true) (hd : decode bytes pc = .ok (.ldc2_w index, 3)) (hp : pc + 3 = pc') (g : Go l Z EL R B0 Q p e s m below T pc' ls (.long v :: st)) : Go l Z EL R B0 Q p e s m below T pc ls st := by
  obtain ⟨i0, hE, hz, hB, V, locs, q0, X1, eT, hZ, hown, hS, hq, hF, hC, hK⟩ := X
  subst hp
  exact Go.step (fun t hr => Jvm.Stand.ldc2J (g := mkF m pc ls st) X1 i0.1 hown (mv (s := s.setVm V) hZ w) rfl (i0.2.1 ▸ hd) hr) g
theorem W.getF (X : Wk l Z EL y bytes maxL ret R B0 p e s m args below meth c B T h k n) {index : Nat} {R0 O nm d : String} {v : Value} (w : (Jvm.Cond.fieldLink y.cls index R0 nm d).before a0 Z = true) (via : Via Z R0 O nm d) (F : Fld Z h a O nm d v) (hd : decode bytes pc = .ok (.getfield index, 3)) (hp : pc + 3 = pc') (g : ∀ T', Wk l Z EL y bytes maxL ret R B0 p e s m args below meth c B T' h k n → Go l Z EL R B0 Q p e s m below T' pc' ls (v :: st)) : Go l Z EL R B0 Q p e s m below T pc ls (.ref a :: st) := by
  obtain ⟨i0, hE, hz, hB, V, locs, q0, X1, eT, hZ, hown, hS, hq, hF, hC, hK⟩ := X
  obtain ⟨T', X', e', st'⟩ := RoadKit.getF X1 i0.1 hZ hown (host := "") (Or.inl w) via eT F (g := mkF m pc ls (.ref a :: st)) rfl rfl (i0.2.1 ▸ hd)
  subst hp
  exact Go.step st' (g T' ⟨i0, hE, hz, hB, V, locs, q0, X', e', hZ, hown, hS, hq, hF, hC, hK⟩)
theorem W.getS (X : Wk l Z EL y bytes maxL ret R B0 p e s m args below meth c B T h k n) {index : Nat} {R0 O nm d host : String} {v : Value} (w : (Jvm.Cond.fieldLink y.cls index R0 nm d).before a0 Z = true ∨ (Jvm.Cond.fieldLinkNest y.cls index R0 nm d host).before a0 Z = true) (via : Via Z R0 O nm d) (F : Sta Z Z.heap O nm d v) (hd : decode bytes pc = .ok (.getstatic index, 3)) (hp : pc + 3 = pc') (g : ∀ T', Wk l Z EL y bytes maxL ret R B0 p e s m args below meth c B T' h k n → Go l Z EL R B0 Q p e s m below T' pc' ls (v :: st)) : Go l Z EL R B0 Q p e s m below T pc ls st := by
  obtain ⟨i0, hE, hz, hB, V, locs, q0, X1, eT, hZ, hown, hS, hq, hF, hC, hK⟩ := X
  obtain ⟨T', X', e', st'⟩ := RoadKit.getS2 X1 i0.1 hZ hown w via eT (F.ext hE.1) (g := mkF m pc ls st) rfl (i0.2.1 ▸ hd)
  subst hp
  exact Go.step st' (g T' ⟨i0, hE, hz, hB, V, locs, q0, X', e', hZ, hown, hS, hq, hF, hC, hK⟩)
theorem En.wr {sl : Nat} {v : Value} (E : En Z B h) (W : Wr h h' a sl v) (q : Z.heap.size ≤ a) : En Z B h' := ⟨(Old.wr (n0 := Z.heap.size) ⟨rfl, E.1⟩ W q).2, fun x r => by rw [W.size]; exact E.2 x r⟩
theorem W.putF (X : Wk l Z EL y bytes maxL ret R B0 p e s m args below meth c B T h k n) {index kk : Nat} {R0 O nm d C : String} {v old : Value} {ty : FieldType} (w : (Jvm.Cond.fieldLink y.cls index R0 nm d).before a0 Z = true) (via : Via Z R0 O nm d) (F : Fld Z h a O nm d old) (E : Exa Z h a C) (L : (Jvm.Cond.lays C O nm d).before a0 Z = true ∨ ((Jvm.Cond.laysFinal C O nm d).before a0 Z = true ∧ y.cls = O ∧ y.name = "<init>")) (wi : (Jvm.Cond.instantiable C kk).before a0 Z = true)
    (hty : parseFieldDescriptor d = some ty) (hn : narrow ty v = v) (hf : fits ty v = true) (ha : Z.heap.size ≤ a) (hnb : ¬ B a) (hd : decode bytes pc = .ok (.putfield index, 3)) (hp : pc + 3 = pc') (g : ∀ T' h', Wk l Z EL y bytes maxL ret R B0 p e s m args below meth c B T' h' k n → Wr h h' a (RoadKit.slotOf Z O nm d) v → Go l Z EL R B0 Q p e s m below T' pc' ls st) : Go l Z EL R B0 Q p e s m below T pc ls (v :: .ref a :: st) := by
  obtain ⟨i0, hE, hz, hB, V, locs, q0, X1, eT, hZ, hown, hS, hq, hF, hC, hK⟩ := X
  obtain ⟨T', h', X', e', W, st'⟩ := RoadKit.putF X1 i0.1 hZ hown (host := "") (Or.inl w) via eT F E (L.imp id fun q => ⟨q.1, q.2.1, i0.2.2.2.2.2.1.trans q.2.2⟩) wi hty hn hf (g := mkF m pc ls (v :: .ref a :: st)) rfl rfl (i0.2.1 ▸ hd)
  subst hp
  have S : Safe Z EL V h a := fun r => hnb (hK a r)
  exact Go.step st' (g T' h' ⟨i0, hE.wr W ha, by rw [W.size]; exact hz, hB, V, _, q0, X', e', hZ, hown, hS, by rw [W.size]; exact hq, Fr.snoc X' hF ha, hC.wr W S, fun x r => hK x ((hC.wrStep W S).2 x r)⟩ W)
theorem W.cast (X : Wk l Z EL y bytes maxL ret R B0 p e s m args below meth c B T h k n) {index : Nat} {K : String} (w : (Jvm.Cond.classLink y.cls index K).before a0 Z = true) (F : Ins Z h a K true) (hd : decode bytes pc = .ok (.checkcast index, 3)) (hp : pc + 3 = pc') (g : ∀ T', Wk l Z EL y bytes maxL ret R B0 p e s m args below meth c B T' h k n → Go l Z EL R B0 Q p e s m below T' pc' ls (.ref a :: st)) : Go l Z EL R B0 Q p e s m below T pc ls (.ref a :: st) := by
  obtain ⟨i0, hE, hz, hB, V, locs, q0, X1, eT, hZ, hown, hS, hq, hF, hC, hK⟩ := X
  obtain ⟨T', X', e', st'⟩ := RoadKit.castY X1 i0.1 hZ hown w eT F (g := mkF m pc ls (.ref a :: st)) rfl rfl (i0.2.1 ▸ hd)
  subst hp
  exact Go.step st' (g T' ⟨i0, hE, hz, hB, V, locs, q0, X', e', hZ, hown, hS, hq, hF, hC, hK⟩)
theorem W.instY (X : Wk l Z EL y bytes maxL ret R B0 p e s m args below meth c B T h k n) {index : Nat} {K : String} (w : (Jvm.Cond.classLink y.cls index K).before a0 Z = true) (F : Ins Z h a K true) (hd : decode bytes pc = .ok (.instanceof index, 3)) (hp : pc + 3 = pc') (g : ∀ T', Wk l Z EL y bytes maxL ret R B0 p e s m args below meth c B T' h k n → Go l Z EL R B0 Q p e s m below T' pc' ls (.int 1 :: st)) : Go l Z EL R B0 Q p e s m below T pc ls (.ref a :: st) := by
  obtain ⟨i0, hE, hz, hB, V, locs, q0, X1, eT, hZ, hown, hS, hq, hF, hC, hK⟩ := X
  obtain ⟨T', X', e', st'⟩ := RoadKit.instY X1 i0.1 hZ hown w eT F (g := mkF m pc ls (.ref a :: st)) rfl rfl (i0.2.1 ▸ hd)
  subst hp
  exact Go.step st' (g T' ⟨i0, hE, hz, hB, V, locs, q0, X', e', hZ, hown, hS, hq, hF, hC, hK⟩)
theorem W.instN (X : Wk l Z EL y bytes maxL ret R B0 p e s m args below meth c B T h k n) {index : Nat} {K C : String} (w : (Jvm.Cond.classLink y.cls index K).before a0 Z = true) (E : Exa Z h a C) (F : ∃ c t, Z.vm.findClass C = some c ∧ Z.vm.findClass K = some t ∧ Z.vm.assignable c t = false) (hd : decode bytes pc = .ok (.instanceof index, 3)) (hp : pc + 3 = pc') (g : ∀ T', Wk l Z EL y bytes maxL ret R B0 p e s m args below meth c B T' h k n → Go l Z EL R B0 Q p e s m below T' pc' ls (.int 0 :: st)) : Go l Z EL R B0 Q p e s m below T pc ls (.ref a :: st) := by
  obtain ⟨i0, hE, hz, hB, V, locs, q0, X1, eT, hZ, hown, hS, hq, hF, hC, hK⟩ := X
  obtain ⟨T', X', e', st'⟩ := RoadKit.instNo X1 i0.1 hZ hown w eT E F (g := mkF m pc ls (.ref a :: st)) rfl rfl (i0.2.1 ▸ hd)
  subst hp
  exact Go.step st' (g T' ⟨i0, hE, hz, hB, V, locs, q0, X', e', hZ, hown, hS, hq, hF, hC, hK⟩)
theorem W.instNull (X : Wk l Z EL y bytes maxL ret R B0 p e s m args below meth c B T h k n) {index : Nat} (hd : decode bytes pc = .ok (.instanceof index, 3)) (hp : pc + 3 = pc') (g : Go l Z EL R B0 Q p e s m below T pc' ls (.int 0 :: st)) : Go l Z EL R B0 Q p e s m below T pc ls (.null :: st) := by
  obtain ⟨i0, hE, hz, hB, V, locs, q0, X1, eT, hZ, hown, hS, hq, hF, hC, hK⟩ := X
  subst hp
  exact Go.step (fun t hr => Jvm.Stand.instanceofNull X1 i0.1 (g := mkF m pc ls (.null :: st)) rfl rfl (i0.2.1 ▸ hd) t hr) g
theorem inst_ord {K : String} {n : Nat} (w : (Jvm.Cond.instantiable K n).before a0 Z = true) : ∃ t k, Z.vm.findClass K = some t ∧ Z.vm.classes[t]? = some k ∧ k.kind = .ordinary ∧ k.isInterface = false := by
  simp only [Cond.before, Cond.holds, Cond.value] at w
  cases ht : Z.vm.findClass K with
  | none => simp [ht] at w
  | some t =>
    cases hk : Z.vm.classes[t]? with
    | none => simp [ht, hk] at w
    | some k =>
      simp [ht, hk] at w
      exact ⟨t, k, rfl, hk, w.1.1.1, w.1.1.2.1⟩
theorem nsRoot {O K : String} {n : Nat} (wo : (Jvm.Cond.noSuperclass O).before a0 Z = true) (wk : (Jvm.Cond.instantiable K n).before a0 Z = true) (hn' : O ≠ K) : NS Z O K := by
  obtain ⟨t, kt, g0, g2, g5, g7⟩ := inst_ord wk
  obtain ⟨c, k, h1, h2, h3, -, -⟩ := Cond.noSuperclass_spec wo
  have ne := ids_ne h1 g0 hn'
  refine ⟨c, t, h1, g0, fun fuel => ?_⟩
  cases fuel with
  | zero => rfl
  | succ f => simp [Vm.isSubclassAux, ne, h2, h3]
theorem nsNo {C S K : String} {n : Nat} (w : (Jvm.Cond.superclass C S).before a0 Z = true) (wk : (Jvm.Cond.instantiable K n).before a0 Z = true) (N : NS Z S K) (hn : C ≠ K) : ∃ c t, Z.vm.findClass C = some c ∧ Z.vm.findClass K = some t ∧ Z.vm.assignable c t = false := by
  obtain ⟨t, kt, g0, g2, g5, g7⟩ := inst_ord wk
  obtain ⟨c, t', h0, g0', n3⟩ := NS.step w N hn
  cases g0.symm.trans g0'
  obtain ⟨p, k, kp, h1, h2, h3, h4, h5, -, h7⟩ := Cond.superclass_spec h0 w
  have ne := ids_ne h0 g0 hn
  refine ⟨c, t, h0, g0, ?_⟩
  show Z.vm.assignableAux (255 + 1) c t = false
  simp [Vm.assignableAux, ne, h2, g2, h5, g5, g7, Vm.isSubclass, n3]
theorem En.ext (E : En Z B h) (W : Ext h h') : En Z B h' := ⟨⟨Nat.le_trans E.1.1 W.1, fun x c q => W.2 x c (E.1.2 x c q)⟩, fun x r => Nat.lt_of_lt_of_le (E.2 x r) W.1⟩
theorem keepE (E : Ext h h') : Keep h h' [] := (Keep.refl h []).ext E
theorem W.new (X : Wk l Z EL y bytes maxL ret R B0 p e s m args below meth c B T h k n) {index sz : Nat} {C : String} (w : (Jvm.Cond.classLink y.cls index C).before a0 Z = true) (wi : (Jvm.Cond.instantiable C sz).before a0 Z = true) (wz : (Jvm.Cond.initialized C).before a0 Z = true) (hd : decode bytes pc = .ok (.new index, 3)) (hp : pc + 3 = pc') {k' n' : Nat} (hk : k + 1 ≤ k') (hn : n + sz ≤ n') (hk' : k' ≤ R.cells) (hn' : n' ≤ R.slots)
    (g : ∀ T' h' a, Wk l Z EL y bytes maxL ret R B0 p e s m args below meth c B T' h' k' n' → Keep h h' [] → h.size ≤ a → Z.heap.size ≤ a → ¬ B a → Exa Z h' a C → (∀ {O nm d : String} {ty : FieldType}, Laid Z a0 C O nm d → parseFieldDescriptor d = some ty → Fld Z h' a O nm d (defaultValue ty)) → Go l Z EL R B0 Q p e s m below T' pc' ls (.ref a :: st)) : Go l Z EL R B0 Q p e s m below T pc ls st := by
  have X0 := X
  obtain ⟨i0, hE, hz, hB, V, locs, q0, X1, eT, hZ, hown, hS, hq, hF, hC, hK⟩ := X
  obtain ⟨T', h', X', e', E, A, D, -, st'⟩ := RoadKit.newO X1 i0.1 hZ hown w wi wz eT (g := mkF m pc ls st) rfl (i0.2.1 ▸ hd) (Nat.le_trans hk hk') (Nat.le_trans hn hn')
  subst hp
  exact Go.step st' (g T' h' h.size ⟨i0, hE.ext E, Nat.le_trans hz E.1, hB, V, locs, q0, X'.mono hk hn, e', hZ, hown, hS, Nat.le_trans hq E.1, hF, hC.ext E, fun x r => hK x ((hC.step fun _ _ _ q => E.2 _ _ q).2 x r)⟩ (keepE E) (Nat.le_refl _) X0.z0 (X0.nb (Nat.le_refl _)) A D)
theorem W.newA (X : Wk l Z EL y bytes maxL ret R B0 p e s m args below meth c B T h k n) {aty : ArrayType} {z : Int32} {cap : Nat} (w : (Jvm.Cond.arrayClass (newarray.typeOf aty)).before a0 Z = true) (hd : decode bytes pc = .ok (.newarray aty, 2)) (hz0 : ¬ z < 0) (hcap : z.toNatClampNeg ≤ cap) (hcb : cap * 8 ≤ 536870912) (hp : pc + 2 = pc') {k' n' : Nat} (hk : k + 1 ≤ k') (hn : n + cap ≤ n') (hk' : k' ≤ R.cells) (hn' : n' ≤ R.slots)
    (g : ∀ T' h' a, Wk l Z EL y bytes maxL ret R B0 p e s m args below meth c B T' h' k' n' → Keep h h' [] → h.size ≤ a → Z.heap.size ≤ a → ¬ B a → Ar Z h' a (newarray.typeOf aty) (List.replicate z.toNatClampNeg (defaultValue (newarray.typeOf aty))) → Go l Z EL R B0 Q p e s m below T' pc' ls (.ref a :: st)) : Go l Z EL R B0 Q p e s m below T pc ls (.int z :: st) := by
  have X0 := X
  obtain ⟨i0, hE, hz, hB, V, locs, q0, X1, eT, hZ, hown, hS, hq, hF, hC, hK⟩ := X
  obtain ⟨T', h', cA, X', e', E, A, st'⟩ := RoadKit.newP X1 i0.1 hZ w eT (g := mkF m pc ls (.int z :: st)) rfl (i0.2.1 ▸ hd) rfl hz0 hcap hcb (Nat.le_trans hk hk') (Nat.le_trans hn hn')
  subst hp
  exact Go.step st' (g T' h' h.size ⟨i0, hE.ext E, Nat.le_trans hz E.1, hB, V, locs, q0, X'.mono hk hn, e', hZ, hown, hS, Nat.le_trans hq E.1, hF, hC.ext E, fun x r => hK x ((hC.step fun _ _ _ q => E.2 _ _ q).2 x r)⟩ (keepE E) (Nat.le_refl _) X0.z0 (X0.nb (Nat.le_refl _)) (Ar.new A hz0))
theorem W.newR (X : Wk l Z EL y bytes maxL ret R B0 p e s m args below meth c B T h k n) {index : Nat} {C : String} {z : Int32} {cap : Nat} (w1 : (Jvm.Cond.classLink y.cls index C).before a0 Z = true) (w2 : (Jvm.Cond.arrayOver (.object C)).before a0 Z = true) (hd : decode bytes pc = .ok (.anewarray index, 3)) (hz0 : ¬ z < 0) (hcap : z.toNatClampNeg ≤ cap) (hcb : cap * 8 ≤ 536870912) (hp : pc + 3 = pc') {k' n' : Nat} (hk : k + 1 ≤ k') (hn : n + cap ≤ n') (hk' : k' ≤ R.cells) (hn' : n' ≤ R.slots)
    (g : ∀ T' h' a, Wk l Z EL y bytes maxL ret R B0 p e s m args below meth c B T' h' k' n' → Keep h h' [] → h.size ≤ a → Z.heap.size ≤ a → ¬ B a → Ar Z h' a (.object C) (List.replicate z.toNatClampNeg .null) → Tk Z h' a C → Go l Z EL R B0 Q p e s m below T' pc' ls (.ref a :: st)) : Go l Z EL R B0 Q p e s m below T pc ls (.int z :: st) := by
  have X0 := X
  obtain ⟨i0, hE, hz, hB, V, locs, q0, X1, eT, hZ, hown, hS, hq, hF, hC, hK⟩ := X
  obtain ⟨T', h', cA, X', e', E, A, O, st'⟩ := RoadKit.newR X1 i0.1 hZ hown w1 w2 eT (g := mkF m pc ls (.int z :: st)) rfl (i0.2.1 ▸ hd) rfl hz0 hcap hcb (Nat.le_trans hk hk') (Nat.le_trans hn hn')
  subst hp
  exact Go.step st' (g T' h' h.size ⟨i0, hE.ext E, Nat.le_trans hz E.1, hB, V, locs, q0, X'.mono hk hn, e', hZ, hown, hS, Nat.le_trans hq E.1, hF, hC.ext E, fun x r => hK x ((hC.step fun _ _ _ q => E.2 _ _ q).2 x r)⟩ (keepE E) (Nat.le_refl _) X0.z0 (X0.nb (Nat.le_refl _)) (Ar.new A hz0) ⟨_, _, A, O⟩)
theorem W.alen (X : Wk l Z EL y bytes maxL ret R B0 p e s m args below meth c B T h k n) {z : Int32} (A : Ar Z h a ty vs) (hv : vs.length.toInt32 = z) (hd : decode bytes pc = .ok (.arraylength, 1)) (hp : pc + 1 = pc') (g : Go l Z EL R B0 Q p e s m below T pc' ls (.int z :: st)) : Go l Z EL R B0 Q p e s m below T pc ls (.ref a :: st) := by
  obtain ⟨i0, hE, hz, hB, V, locs, q0, X1, eT, hZ, hown, hS, hq, hF, hC, hK⟩ := X
  obtain ⟨cl, A, e1, -, -⟩ := A
  have e2 : cl.slots.size = vs.length := by rw [← e1]; simp
  subst hp hv
  rw [← e2] at g
  exact Go.step (fun t hr => X1.arraylength i0.1 (by rw [eT]; exact A.1) (State.isArrayOf_alike hZ.alike A.2.1) (g := mkF m pc ls (.ref a :: st)) rfl rfl (i0.2.1 ▸ hd) t hr) g
theorem W.caload (X : Wk l Z EL y bytes maxL ret R B0 p e s m args below meth c B T h k n) {j : Int32} {v : Value} (A : Ar Z h a .char vs) (hj : ¬ j < 0) (hv : vs[j.toNatClampNeg]? = some v) (hd : decode bytes pc = .ok (.caload, 1)) (hp : pc + 1 = pc') (g : Go l Z EL R B0 Q p e s m below T pc' ls (v :: st)) : Go l Z EL R B0 Q p e s m below T pc ls (.int j :: .ref a :: st) := by
  obtain ⟨i0, hE, hz, hB, V, locs, q0, X1, eT, hZ, hown, hS, hq, hF, hC, hK⟩ := X
  obtain ⟨cl, A, e1, -, -⟩ := A
  have e2 : cl.slots.size = vs.length := by rw [← e1]; simp
  have hlt : j.toNatClampNeg < vs.length := (List.getElem?_eq_some_iff.mp hv).1
  subst hp
  exact Go.step (fun t hr => X1.caload i0.1 (by rw [eT]; exact A.1) (State.isArrayOf_alike hZ.alike A.2.1) A.2.2 (fun r => r.elim hj fun z => by omega) (by rw [← Array.getElem?_toList, e1]; exact hv) (g := mkF m pc ls (.int j :: .ref a :: st)) rfl rfl (i0.2.1 ▸ hd) t hr) g
theorem W.baload (X : Wk l Z EL y bytes maxL ret R B0 p e s m args below meth c B T h k n) {j : Int32} {v : Value} (A : Ar Z h a .byte vs) (hj : ¬ j < 0) (hv : vs[j.toNatClampNeg]? = some v) (hd : decode bytes pc = .ok (.baload, 1)) (hp : pc + 1 = pc') (g : Go l Z EL R B0 Q p e s m below T pc' ls (v :: st)) : Go l Z EL R B0 Q p e s m below T pc ls (.int j :: .ref a :: st) := by
  obtain ⟨i0, hE, hz, hB, V, locs, q0, X1, eT, hZ, hown, hS, hq, hF, hC, hK⟩ := X
  obtain ⟨cl, A, e1, -, -⟩ := A
  have e2 : cl.slots.size = vs.length := by rw [← e1]; simp
  have hlt : j.toNatClampNeg < vs.length := (List.getElem?_eq_some_iff.mp hv).1
  subst hp
  exact Go.step (fun t hr => X1.baloadBytes i0.1 (by rw [eT]; exact A.1) (State.isArrayOf_alike hZ.alike A.2.1) A.2.2 (fun r => r.elim hj fun z => by omega) (by rw [← Array.getElem?_toList, e1]; exact hv) (g := mkF m pc ls (.int j :: .ref a :: st)) rfl rfl (i0.2.1 ▸ hd) t hr) g
theorem W.iaload (X : Wk l Z EL y bytes maxL ret R B0 p e s m args below meth c B T h k n) {j : Int32} {v : Value} (A : Ar Z h a .int vs) (hj : ¬ j < 0) (hv : vs[j.toNatClampNeg]? = some v) (hd : decode bytes pc = .ok (.iaload, 1)) (hp : pc + 1 = pc') (g : Go l Z EL R B0 Q p e s m below T pc' ls (v :: st)) : Go l Z EL R B0 Q p e s m below T pc ls (.int j :: .ref a :: st) := by
  obtain ⟨i0, hE, hz, hB, V, locs, q0, X1, eT, hZ, hown, hS, hq, hF, hC, hK⟩ := X
  obtain ⟨cl, A, e1, -, -⟩ := A
  have e2 : cl.slots.size = vs.length := by rw [← e1]; simp
  have hlt : j.toNatClampNeg < vs.length := (List.getElem?_eq_some_iff.mp hv).1
  subst hp
  exact Go.step (fun t hr => X1.iaload i0.1 (by rw [eT]; exact A.1) (State.isArrayOf_alike hZ.alike A.2.1) A.2.2 (fun r => r.elim hj fun z => by omega) (by rw [← Array.getElem?_toList, e1]; exact hv) (g := mkF m pc ls (.int j :: .ref a :: st)) rfl rfl (i0.2.1 ▸ hd) t hr) g
theorem W.laload (X : Wk l Z EL y bytes maxL ret R B0 p e s m args below meth c B T h k n) {j : Int32} {v : Value} (A : Ar Z h a .long vs) (hj : ¬ j < 0) (hv : vs[j.toNatClampNeg]? = some v) (hd : decode bytes pc = .ok (.laload, 1)) (hp : pc + 1 = pc') (g : Go l Z EL R B0 Q p e s m below T pc' ls (v :: st)) : Go l Z EL R B0 Q p e s m below T pc ls (.int j :: .ref a :: st) := by
  obtain ⟨i0, hE, hz, hB, V, locs, q0, X1, eT, hZ, hown, hS, hq, hF, hC, hK⟩ := X
  obtain ⟨cl, A, e1, -, -⟩ := A
  have e2 : cl.slots.size = vs.length := by rw [← e1]; simp
  have hlt : j.toNatClampNeg < vs.length := (List.getElem?_eq_some_iff.mp hv).1
  subst hp
  exact Go.step (fun t hr => X1.laload i0.1 (by rw [eT]; exact A.1) (State.isArrayOf_alike hZ.alike A.2.1) A.2.2 (fun r => r.elim hj fun z => by omega) (by rw [← Array.getElem?_toList, e1]; exact hv) (g := mkF m pc ls (.int j :: .ref a :: st)) rfl rfl (i0.2.1 ▸ hd) t hr) g
theorem W.zaload (X : Wk l Z EL y bytes maxL ret R B0 p e s m args below meth c B T h k n) {j : Int32} {v : Value} (A : Ar Z h a .boolean vs) (hj : ¬ j < 0) (hv : vs[j.toNatClampNeg]? = some v) (hd : decode bytes pc = .ok (.baload, 1)) (hp : pc + 1 = pc') (g : Go l Z EL R B0 Q p e s m below T pc' ls (v :: st)) : Go l Z EL R B0 Q p e s m below T pc ls (.int j :: .ref a :: st) := by
  obtain ⟨i0, hE, hz, hB, V, locs, q0, X1, eT, hZ, hown, hS, hq, hF, hC, hK⟩ := X
  obtain ⟨cl, A, e1, -, -⟩ := A
  have e2 : cl.slots.size = vs.length := by rw [← e1]; simp
  have hlt : j.toNatClampNeg < vs.length := (List.getElem?_eq_some_iff.mp hv).1
  subst hp
  exact Go.step (fun t hr => X1.baloadBooleans i0.1 (by rw [eT]; exact A.1) (State.isArrayOf_alike hZ.alike A.2.1) A.2.2 (fun r => r.elim hj fun z => by omega) (by rw [← Array.getElem?_toList, e1]; exact hv) (g := mkF m pc ls (.int j :: .ref a :: st)) rfl rfl (i0.2.1 ▸ hd) t hr) g
theorem W.aaload (X : Wk l Z EL y bytes maxL ret R B0 p e s m args below meth c B T h k n) {j : Int32} {v : Value} (A : Ar Z h a ty vs) (hty : ty.isReference = true) (hj : ¬ j < 0) (hv : vs[j.toNatClampNeg]? = some v) (hd : decode bytes pc = .ok (.aaload, 1)) (hp : pc + 1 = pc') (g : Go l Z EL R B0 Q p e s m below T pc' ls (v :: st)) : Go l Z EL R B0 Q p e s m below T pc ls (.int j :: .ref a :: st) := by
  obtain ⟨i0, hE, hz, hB, V, locs, q0, X1, eT, hZ, hown, hS, hq, hF, hC, hK⟩ := X
  obtain ⟨cl, A, e1, -, -⟩ := A
  have e2 : cl.slots.size = vs.length := by rw [← e1]; simp
  have hlt : j.toNatClampNeg < vs.length := (List.getElem?_eq_some_iff.mp hv).1
  subst hp
  exact Go.step (fun t hr => X1.aaload i0.1 (by rw [eT]; exact A.1) (State.isArrayOf_alike hZ.alike A.2.1) hty A.2.2 (fun r => r.elim hj fun z => by omega) (by rw [← Array.getElem?_toList, e1]; exact hv) (g := mkF m pc ls (.int j :: .ref a :: st)) rfl rfl (i0.2.1 ▸ hd) t hr) g
theorem Ar.set {cl : Cell} {i : Nat} {v : Value} (A : Arr Z h a cl ty) (e1 : cl.slots.toList = vs) (hl : vs.length < 2 ^ 31) (hf : ∀ v ∈ vs, fits ty v = true) (hv : fits ty v = true) (W : Wr h h' a i v) : Ar Z h' a ty (vs.set i v) :=
  ⟨_, A.same W, by simp [Cell.setSlot, ← e1], by simpa using hl, fun w hw => (List.mem_or_eq_of_mem_set hw).elim (hf w) fun q => q ▸ hv⟩
theorem W.castore (X : Wk l Z EL y bytes maxL ret R B0 p e s m args below meth c B T h k n) {j : Int32} {x x' : Int32} {i : Nat} (A : Ar Z h a .char vs) (hj : ¬ j < 0) (hi : j.toNatClampNeg = i) (hl : i < vs.length) (hx : nar .char x = x') (ha : Z.heap.size ≤ a) (hnb : ¬ B a) (hd : decode bytes pc = .ok (.castore, 1)) (hp : pc + 1 = pc') (g : ∀ T' h', Wk l Z EL y bytes maxL ret R B0 p e s m args below meth c B T' h' k n → Keep h h' [a] → Ar Z h' a .char (vs.set i (.int x')) → Go l Z EL R B0 Q p e s m below T' pc' ls st) : Go l Z EL R B0 Q p e s m below T pc ls (.int x :: .int j :: .ref a :: st) := by
  obtain ⟨i0, hE, hz, hB, V, locs, q0, X1, eT, hZ, hown, hS, hq, hF, hC, hK⟩ := X
  obtain ⟨cl, A, e1, hl31, hfit⟩ := A
  have e2 : cl.slots.size = vs.length := by rw [← e1]; simp
  subst hi hx
  obtain ⟨T', h', X', e', W, st'⟩ := RoadKit.stC X1 i0.1 hZ eT A (fun r => r.elim hj fun z => by omega) (g := mkF m pc ls (.int x :: .int j :: .ref a :: st)) rfl rfl (i0.2.1 ▸ hd)
  subst hp
  have S : Safe Z EL V h a := fun r => hnb (hK a r)
  exact Go.step st' (g T' h' ⟨i0, hE.wr W ha, by rw [W.size]; exact hz, hB, V, _, q0, X', e', hZ, hown, hS, by rw [W.size]; exact hq, Fr.snoc X' hF ha, hC.wr W S, fun x r => hK x ((hC.wrStep W S).2 x r)⟩ (Keep.of_wr W) (Ar.set A e1 hl31 hfit (fits_nar_char x) W))
theorem W.bastore (X : Wk l Z EL y bytes maxL ret R B0 p e s m args below meth c B T h k n) {j : Int32} {x x' : Int32} {i : Nat} (A : Ar Z h a .byte vs) (hj : ¬ j < 0) (hi : j.toNatClampNeg = i) (hl : i < vs.length) (hx : nar .byte x = x') (ha : Z.heap.size ≤ a) (hnb : ¬ B a) (hd : decode bytes pc = .ok (.bastore, 1)) (hp : pc + 1 = pc') (g : ∀ T' h', Wk l Z EL y bytes maxL ret R B0 p e s m args below meth c B T' h' k n → Keep h h' [a] → Ar Z h' a .byte (vs.set i (.int x')) → Go l Z EL R B0 Q p e s m below T' pc' ls st) : Go l Z EL R B0 Q p e s m below T pc ls (.int x :: .int j :: .ref a :: st) := by
  obtain ⟨i0, hE, hz, hB, V, locs, q0, X1, eT, hZ, hown, hS, hq, hF, hC, hK⟩ := X
  obtain ⟨cl, A, e1, hl31, hfit⟩ := A
  have e2 : cl.slots.size = vs.length := by rw [← e1]; simp
  subst hi hx
  obtain ⟨T', h', X', e', W, st'⟩ := RoadKit.stB X1 i0.1 hZ eT A (fun r => r.elim hj fun z => by omega) (g := mkF m pc ls (.int x :: .int j :: .ref a :: st)) rfl rfl (i0.2.1 ▸ hd)
  subst hp
  have S : Safe Z EL V h a := fun r => hnb (hK a r)
  exact Go.step st' (g T' h' ⟨i0, hE.wr W ha, by rw [W.size]; exact hz, hB, V, _, q0, X', e', hZ, hown, hS, by rw [W.size]; exact hq, Fr.snoc X' hF ha, hC.wr W S, fun x r => hK x ((hC.wrStep W S).2 x r)⟩ (Keep.of_wr W) (Ar.set A e1 hl31 hfit (fits_nar_byte x) W))
theorem W.iastore (X : Wk l Z EL y bytes maxL ret R B0 p e s m args below meth c B T h k n) {j : Int32} {x x' : Int32} {i : Nat} (A : Ar Z h a .int vs) (hj : ¬ j < 0) (hi : j.toNatClampNeg = i) (hl : i < vs.length) (hx : x = x') (ha : Z.heap.size ≤ a) (hnb : ¬ B a) (hd : decode bytes pc = .ok (.iastore, 1)) (hp : pc + 1 = pc') (g : ∀ T' h', Wk l Z EL y bytes maxL ret R B0 p e s m args below meth c B T' h' k n → Keep h h' [a] → Ar Z h' a .int (vs.set i (.int x')) → Go l Z EL R B0 Q p e s m below T' pc' ls st) : Go l Z EL R B0 Q p e s m below T pc ls (.int x :: .int j :: .ref a :: st) := by
  obtain ⟨i0, hE, hz, hB, V, locs, q0, X1, eT, hZ, hown, hS, hq, hF, hC, hK⟩ := X
  obtain ⟨cl, A, e1, hl31, hfit⟩ := A
  have e2 : cl.slots.size = vs.length := by rw [← e1]; simp
  subst hi hx
  obtain ⟨T', h', X', e', W, st'⟩ := RoadKit.stI X1 i0.1 hZ eT A (fun r => r.elim hj fun z => by omega) (g := mkF m pc ls (.int x :: .int j :: .ref a :: st)) rfl rfl (i0.2.1 ▸ hd)
  subst hp
  have S : Safe Z EL V h a := fun r => hnb (hK a r)
  exact Go.step st' (g T' h' ⟨i0, hE.wr W ha, by rw [W.size]; exact hz, hB, V, _, q0, X', e', hZ, hown, hS, by rw [W.size]; exact hq, Fr.snoc X' hF ha, hC.wr W S, fun x r => hK x ((hC.wrStep W S).2 x r)⟩ (Keep.of_wr W) (Ar.set A e1 hl31 hfit (rfl) W))
theorem W.lastore (X : Wk l Z EL y bytes maxL ret R B0 p e s m args below meth c B T h k n) {j : Int32} {x x' : Int64} {i : Nat} (A : Ar Z h a .long vs) (hj : ¬ j < 0) (hi : j.toNatClampNeg = i) (hl : i < vs.length) (hx : x = x') (ha : Z.heap.size ≤ a) (hnb : ¬ B a) (hd : decode bytes pc = .ok (.lastore, 1)) (hp : pc + 1 = pc') (g : ∀ T' h', Wk l Z EL y bytes maxL ret R B0 p e s m args below meth c B T' h' k n → Keep h h' [a] → Ar Z h' a .long (vs.set i (.long x')) → Go l Z EL R B0 Q p e s m below T' pc' ls st) : Go l Z EL R B0 Q p e s m below T pc ls (.long x :: .int j :: .ref a :: st) := by
  obtain ⟨i0, hE, hz, hB, V, locs, q0, X1, eT, hZ, hown, hS, hq, hF, hC, hK⟩ := X
  obtain ⟨cl, A, e1, hl31, hfit⟩ := A
  have e2 : cl.slots.size = vs.length := by rw [← e1]; simp
  subst hi hx
  obtain ⟨T', h', X', e', W, st'⟩ := RoadKit.stJ X1 i0.1 hZ eT A (fun r => r.elim hj fun z => by omega) (g := mkF m pc ls (.long x :: .int j :: .ref a :: st)) rfl rfl (i0.2.1 ▸ hd)
  subst hp
  have S : Safe Z EL V h a := fun r => hnb (hK a r)
  exact Go.step st' (g T' h' ⟨i0, hE.wr W ha, by rw [W.size]; exact hz, hB, V, _, q0, X', e', hZ, hown, hS, by rw [W.size]; exact hq, Fr.snoc X' hF ha, hC.wr W S, fun x r => hK x ((hC.wrStep W S).2 x r)⟩ (Keep.of_wr W) (Ar.set A e1 hl31 hfit (rfl) W))
theorem W.aastore (X : Wk l Z EL y bytes maxL ret R B0 p e s m args below meth c B T h k n) {j : Int32} {v : Value} {i : Nat} (A : Ar Z h a ty vs) (hj : ¬ j < 0) (hi : j.toNatClampNeg = i) (hl : i < vs.length) (hty : ty.isReference = true) (F : Sto Z h a v) (hvf : fits ty v = true) (ha : Z.heap.size ≤ a) (hnb : ¬ B a) (hd : decode bytes pc = .ok (.aastore, 1)) (hp : pc + 1 = pc') (g : ∀ T' h', Wk l Z EL y bytes maxL ret R B0 p e s m args below meth c B T' h' k n → Keep h h' [a] → Ar Z h' a ty (vs.set i v) → Go l Z EL R B0 Q p e s m below T' pc' ls st) : Go l Z EL R B0 Q p e s m below T pc ls (v :: .int j :: .ref a :: st) := by
  obtain ⟨i0, hE, hz, hB, V, locs, q0, X1, eT, hZ, hown, hS, hq, hF, hC, hK⟩ := X
  obtain ⟨cl, A, e1, hl31, hfit⟩ := A
  have e2 : cl.slots.size = vs.length := by rw [← e1]; simp
  subst hi
  obtain ⟨T', h', X', e', W, st'⟩ := RoadKit.stR X1 i0.1 hZ eT A (fun r => r.elim hj fun z => by omega) hty F (g := mkF m pc ls (v :: .int j :: .ref a :: st)) rfl rfl (i0.2.1 ▸ hd)
  subst hp
  have S : Safe Z EL V h a := fun r => hnb (hK a r)
  exact Go.step st' (g T' h' ⟨i0, hE.wr W ha, by rw [W.size]; exact hz, hB, V, _, q0, X', e', hZ, hown, hS, by rw [W.size]; exact hq, Fr.snoc X' hF ha, hC.wr W S, fun x r => hK x ((hC.wrStep W S).2 x r)⟩ (Keep.of_wr W) (Ar.set A e1 hl31 hfit hvf W))
theorem Sto.tk {C : String} (F : Tk Z h a C) (I : Ins Z h b C true) : Sto Z h a (.ref b) := by obtain ⟨c, ty, A, O⟩ := F; exact Sto.of A O I
/-! Object.<init> -/
theorem W.initO (X : Wk l Z EL y bytes maxL ret R B0 p e s m args below meth c B T h k n) {idx W : Nat} (w1 : (Jvm.Cond.methodLink y.cls idx Lib.objectInit).before a0 Z = true) (w2 : (Jvm.Cond.instanceMethod Lib.objectInit).before a0 Z = true) (w3 : (Jvm.Cond.code Lib.objectInit ⟨#[0xb1]⟩ 1 none).before a0 Z = true) (hd : decode bytes pc = .ok (.invokespecial idx, 3)) (hsize : ls.size = maxL) (hf : 1 ≤ R.frames) (hW : (st.map fun v => v.category).sum ≤ W) (hl : W + 12 ≤ R.locals) (hp : pc + 3 = pc') (g : ∀ T', Wk l Z EL y bytes maxL ret R B0 p e s m args below meth c B T' h k n → Go l Z EL R B0 Q p e s m below T' pc' ls st) : Go l Z EL R B0 Q p e s m below T pc ls (.ref a :: st) := by
  obtain ⟨i0, hE, hz, hB, V, locs, q0, X1, eT, hZ, hown, hS, hq, hF, hC, hK⟩ := X
  obtain ⟨T', X', e', st'⟩ := RoadKit.initO X1 i0.1 hZ hown w1 w2 w3 eT (g := mkF m pc ls (.ref a :: st)) rfl (hsize.trans i0.2.2.1.symm) rfl (i0.2.1 ▸ hd) hf (W := W) (by show 2 * 0 + _ ≤ _; omega) hl
  subst hp
  exact Go.step st' (g T' ⟨i0, hE, hz, hB, V, locs, q0, X', e', hZ, hown, hS, hq, hF, hC, hK⟩)
theorem sameM {C : String} {z z' : MethodName} (hc : z.cls = z'.cls) (hy : z.cls ≠ "java/lang/invoke/MethodHandle" ∧ z.cls ≠ "java/lang/invoke/VarHandle") (wi : (Jvm.Cond.instanceMethod z).before a0 Z = true) (ws : (Jvm.Cond.selects C z' z').before a0 Z = true) : (Jvm.Cond.sameMethod z.cls z.cls z.name z.desc).before a0 Z = true := by
  obtain ⟨mk, methM, hnamed, -, -, -⟩ := Cond.instanceMethod_spec wi
  obtain ⟨c2, r2, m2, q1, q2, q3, q4, kP, hkP, hkPi⟩ := Cond.selects_spec ws
  have f1 := findClass_of_methodNamed hnamed
  have f2 := findClass_of_methodNamed q3
  rw [← hc, f1] at f2
  have e : mk.cls = m2.cls := Option.some.inj f2
  have hf : Z.methodFound? z.cls z.name z.desc = some mk := State.methodFound?_of_named hnamed hy
  have hn' : Z.methodNamed? ⟨z.cls, z.name, z.desc⟩ = some mk := hnamed
  simp [Cond.before, Cond.holds, Cond.value, f1, hf, hn', e, hkP, hkPi]
theorem nfM {C : String} {z z' : MethodName} (hc : z.cls = z'.cls) (ws : (Jvm.Cond.selects C z' z').before a0 Z = true) : NotFace Z z := fun r0 h0 => by
  obtain ⟨c2, r2, m2, q1, q2, q3, q4, kP, hkP, hkPi⟩ := Cond.selects_spec ws
  have f1 := findClass_of_methodNamed h0
  have f2 := findClass_of_methodNamed q3
  rw [← hc, f1] at f2
  have e : r0.cls = m2.cls := Option.some.inj f2
  exact ⟨kP, by rw [e]; exact hkP, hkPi⟩
/-! calls -/
theorem BackS.con {z : MethodName} {zb : ByteArray} {zl len W : Nat} {zr : Option FieldType} {rm : Room} {as' : Array Value} {Qc : Option Value → Heap → (Addr → Prop) → Prop} {V : Vm} (K : Con l Z EL [] z zb zl zr rm B h as' Qc) (hZ : Z.Warmed39 V) (wc : (Jvm.Cond.code z zb zl zr).before a0 Z = true) (wz : (Jvm.Cond.initialized z.cls).before a0 Z = true) (hf : rm.frames + 1 ≤ R.frames) (hl : W + (zl + 11) + rm.locals ≤ R.locals) {a1 : Array Value} (hEL : EW Z a1 EL) (H : CHv Z EL V h) (hK : ∀ x, Bk Z EL V h x → B x) :
    BackS l R p e below (s.setVm V) args z len W (fun A a => a = as' ∧ A.U.heap = h ∧ A.cells + rm.cells ≤ R.cells ∧ A.slots + rm.slots ≤ R.slots)
      (fun A _ v B1 => ∃ L B', B1.locs = A.locs ++ L ∧ B1.cells = A.cells + rm.cells ∧ B1.slots = A.slots + rm.slots ∧ Fr Z.heap.size L ∧ CHv Z EL B1.U.vm B1.U.heap ∧ (∀ x, Bk Z EL B1.U.vm B1.U.heap x → B' x) ∧ (∀ x, B' x → B x ∨ h.size ≤ x) ∧ En Z B' B1.U.heap ∧ h.size ≤ B1.U.heap.size ∧ Qc v B1.U.heap B') :=
  BackS.of_freeW (bytes := zb) (maxL := zl) (ret := zr) (E := fun _ first o t L k n => k = rm.cells ∧ n = rm.slots ∧ ∃ v B', o = .returned v ∧ Fr Z.heap.size L ∧ CHv Z EL t.vm t.heap ∧ (∀ x, Bk Z EL t.vm t.heap x → B' x) ∧ (∀ x, B' x → B x ∨ h.size ≤ x) ∧ En Z B' t.heap ∧ h.size ≤ t.heap.size ∧ Qc v t.heap B') K hf hl
    (fun m meth c A a Y hp => have hU : Z.Warmed39 A.U.vm := wtrans (s := s.setVm V) hZ Y.warmed
      ⟨by show (Jvm.Cond.and _ .tt).before a A.U = true; rw [Cond.before_and, mv hU wc]; rfl, mv hU wc, mv hU wz, hp.2.2.1, hp.2.2.2⟩)
    (fun m meth c A a g mk Y hp => ⟨hp.1, wtrans (s := s.setVm V) hZ Y.warmed, hp.2.1, (CHv.at Y hZ hEL H).1, fun x r => by
      rcases (CHv.at Y hZ hEL H).2.2 x r with q | q
      · exact hK x q
      · obtain ⟨cell, q2⟩ := r.there
        exact absurd (Array.getElem?_eq_some_iff.mp q2).1 (Nat.not_lt.mpr q)⟩) (fun _ _ _ _ _ _ _ _ _ => trivial)
    (fun _ _ _ _ ⟨v, L, B', h1, h2, h3, h4, h5, h6, h7, h8, h9⟩ => ⟨L, _, _, h9, rfl, rfl, v, B', h1, h2, h3, h4, h5, h6, h7, h8⟩)
    (fun m meth c A a g mk v t L k n Y hp _ _ ⟨e1, e2, v', B', e3, e4, e5, e6, e7, e8, e9, e10⟩ => by
      cases e3; subst e1 e2
      exact ⟨L, B', rfl, rfl, rfl, e4, e5, e6, e7, e8, e9, e10⟩)
/-- behind a call -/
theorem Wk.after {V : Vm} {q0 : Nat} {locs : List Loc} {U : State} {L : List Loc} {B' : Addr → Prop} {k1 n1 : Nat} (i0 : p.tables.exec = Jvm.exec ∧ c.code = bytes ∧ c.maxLocals = maxL ∧ meth.sig.returnType = ret ∧ meth.locks = false ∧ meth.name = y.name ∧ ∃ a1, EW Z a1 EL) (hz : s.heap.size ≤ h.size) (hB : ∀ x, B x → B0 x ∨ s.heap.size ≤ x) (hZ : Z.Warmed39 V) (hown : V.findClass y.cls = some m.cls) (hS : s.Since V q0) (hq : q0 ≤ h.size) (hF : Fr Z.heap.size locs)
    (X2 : Stand p l e R ((s.setVm V).setVm U.vm) m args below meth c U (locs ++ L) k1 n1) (hS2 : (s.setVm V).Since U.vm U.heap.size) (r1 : Fr Z.heap.size L) (r2 : CHv Z EL U.vm U.heap) (r3 : ∀ x, Bk Z EL U.vm U.heap x → B' x) (r4 : ∀ x, B' x → B x ∨ h.size ≤ x) (r5 : En Z B' U.heap) (r6 : h.size ≤ U.heap.size) : Wk l Z EL y bytes maxL ret R B0 p e s m args below meth c B' U U.heap k1 n1 :=
  ⟨i0, r5, Nat.le_trans hz r6, fun x r => (r4 x r).elim (hB x) fun q => Or.inr (Nat.le_trans hz q), U.vm, locs ++ L, U.heap.size, X2, rfl, State.Warmed39.trans (t := s.setVm V) hZ hS2.1, (hS2.1.alike.findClass _ _).trans hown, hS.trans hS2 (Nat.le_trans hq r6), Nat.le_refl _, hF.app r1, r2, r3⟩
theorem W.callS (X : Wk l Z EL y bytes maxL ret R B0 p e s m args below meth c B T h k n) {index : Nat} {z : MethodName} {zb : ByteArray} {zl W : Nat} {zr : Option FieldType} {rm : Room} {as' : Array Value} {Qc : Option Value → Heap → (Addr → Prop) → Prop} {argsL stk : List Value} (K : Con l Z EL [] z zb zl zr rm B h as' Qc) (w1 : (Jvm.Cond.methodLink y.cls index z).before a0 Z = true) (w2 : (Jvm.Cond.static z).before a0 Z = true) (wc : (Jvm.Cond.code z zb zl zr).before a0 Z = true) (wz : (Jvm.Cond.initialized z.cls).before a0 Z = true) (hy : z.cls ≠ "java/lang/invoke/MethodHandle" ∧ z.cls ≠ "java/lang/invoke/VarHandle") (hf : rm.frames + 1 ≤ R.frames) (hl : W + (zl + 11) + rm.locals ≤ R.locals) (hsize : ls.size = maxL)
    (hlen : ∀ sig, parseMethodDescriptor z.desc = some sig → argsL.length = sig.parameters.length) (has : argsL.toArray = as') (hstk : stk = argsL.reverse ++ st) (hW : (st.map fun v => v.category).sum ≤ W) (hd : decode bytes pc = .ok (.invokestatic index, 3)) (hp : pc + 3 = pc') {k' n' : Nat} (hk1 : k + rm.cells ≤ k') (hn1 : n + rm.slots ≤ n') (hk2 : k' ≤ R.cells) (hn2 : n' ≤ R.slots)
    (g : ∀ T' h' B' v, Wk l Z EL y bytes maxL ret R B0 p e s m args below meth c B' T' h' k' n' → h.size ≤ h'.size → (∀ x, B' x → B x ∨ h.size ≤ x) → Qc v h' B' → Go l Z EL R B0 Q p e s m below T' pc' ls (v.toList ++ st)) : Go l Z EL R B0 Q p e s m below T pc ls stk := by
  obtain ⟨i0, hE, hz, hB, V, locs, q0, X1, eT, hZ, hown, hS, hq, hF, hC, hK⟩ := X
  obtain ⟨a1, hEL⟩ := i0.2.2.2.2.2.2
  obtain ⟨v, vm₁, ⟨U, Lu, ku, nu⟩, hWv, X2, hS2, hgr, ⟨L, B', e1, e2, e3, r1, r2, r3, r4, r5, r6, r7⟩, st'⟩ := Jvm.RoadKit.callSS X1 i0.1 (y := z) hown (mv (s := s.setVm V) hZ w1) (mv (s := s.setVm V) hZ w2) (mv (s := s.setVm V) hZ wz) (mv (s := s.setVm V) hZ wc) hy (BackS.con K hZ wc wz hf hl hEL hC hK) (g := mkF m pc ls stk) rfl (hsize.trans i0.2.2.1.symm) (argsL := argsL) (rest := st) hlen hstk (by show 2 * 0 + _ ≤ _; omega) (i0.2.1 ▸ hd) (fun _ _ => ⟨has, eT, by show k + _ ≤ _; omega, by show n + _ ≤ _; omega⟩)
  dsimp only [Pt.U, Pt.locs, Pt.cells, Pt.slots] at X2 hS2 hgr e1 e2 e3 r2 r3 r5 r6 r7 st'
  subst e1 e2 e3 hp
  exact Go.via st' (g U U.heap B' v ((Wk.after i0 hz hB hZ hown hS hq hF X2 hS2 r1 r2 r3 r4 r5 r6).mono hk1 hn1) r6 r4 r7)
theorem W.callV (X : Wk l Z EL y bytes maxL ret R B0 p e s m args below meth c B T h k n) {index : Nat} {z : MethodName} {zi : MethodName} {C : String} {zb : ByteArray} {zl W : Nat} {zr : Option FieldType} {rm : Room} {as' : Array Value} {Qc : Option Value → Heap → (Addr → Prop) → Prop} {argsL stk : List Value} (K : Con l Z EL [] z zb zl zr rm B h as' Qc) (w1 : (Jvm.Cond.methodLink y.cls index zi).before a0 Z = true) (w2 : (Jvm.Cond.declares zi).before a0 Z = true) (w3 : NotFace Z zi) (w4 : (Jvm.Cond.selects C zi z).before a0 Z = true) (w5 : (Jvm.Cond.instanceMethod z).before a0 Z = true) (E : Exa Z h a C) (wc : (Jvm.Cond.code z zb zl zr).before a0 Z = true) (wz : (Jvm.Cond.initialized z.cls).before a0 Z = true) (hy : zi.cls ≠ "java/lang/invoke/MethodHandle" ∧ zi.cls ≠ "java/lang/invoke/VarHandle") (hf : rm.frames + 1 ≤ R.frames) (hl : W + (zl + 11) + rm.locals ≤ R.locals) (hsize : ls.size = maxL)
    (hlen : ∀ sig, parseMethodDescriptor zi.desc = some sig → argsL.length = sig.parameters.length) (has : (.ref a :: argsL).toArray = as') (hstk : stk = argsL.reverse ++ .ref a :: st) (hW : (st.map fun v => v.category).sum ≤ W) (hd : decode bytes pc = .ok (.invokevirtual index, 3)) (hp : pc + 3 = pc') {k' n' : Nat} (hk1 : k + rm.cells ≤ k') (hn1 : n + rm.slots ≤ n') (hk2 : k' ≤ R.cells) (hn2 : n' ≤ R.slots)
    (g : ∀ T' h' B' v, Wk l Z EL y bytes maxL ret R B0 p e s m args below meth c B' T' h' k' n' → h.size ≤ h'.size → (∀ x, B' x → B x ∨ h.size ≤ x) → Qc v h' B' → Go l Z EL R B0 Q p e s m below T' pc' ls (v.toList ++ st)) : Go l Z EL R B0 Q p e s m below T pc ls stk := by
  obtain ⟨i0, hE, hz, hB, V, locs, q0, X1, eT, hZ, hown, hS, hq, hF, hC, hK⟩ := X
  obtain ⟨a1, hEL⟩ := i0.2.2.2.2.2.2
  obtain ⟨cB, kB, j1, j2, j3⟩ := isOf (s := s.setVm V) hZ eT E
  have w3' : NotFace (s.setVm V) zi := fun r0 h0 => by
    have h0' : (Z.setVm V).methodNamed? zi = some r0 := h0
    rw [State.methodNamed?_setVm hZ.alike] at h0'
    obtain ⟨kr, q1, q2⟩ := w3 r0 h0'
    obtain ⟨k2, q3, q4⟩ := hZ.alike.2.2 _ _ q1
    exact ⟨k2, q3, by rw [q4]; exact q2⟩
  obtain ⟨v, vm₁, ⟨U, Lu, ku, nu⟩, hWv, X2, hS2, hgr, ⟨L, B', e1, e2, e3, r1, r2, r3, r4, r5, r6, r7⟩, st'⟩ := X1.virtualBackS i0.1 (y := zi) (z := z) hown (mv (s := s.setVm V) hZ w1) (mv (s := s.setVm V) hZ w2) w3' (mv (s := s.setVm V) hZ w4) (mv (s := s.setVm V) hZ w5) hy (BackS.con K hZ wc wz hf hl hEL hC hK) j1 j3 (g := mkF m pc ls stk) rfl (hsize.trans i0.2.2.1.symm) (Steps.refl _) (argsL := argsL) (rest := st) hlen hstk (by show 2 * 0 + _ ≤ _; omega) (i0.2.1 ▸ hd) (fun _ _ => ⟨has, eT, by show k + _ ≤ _; omega, by show n + _ ≤ _; omega⟩)
  dsimp only [Pt.U, Pt.locs, Pt.cells, Pt.slots] at X2 hS2 hgr e1 e2 e3 r2 r3 r5 r6 r7 st'
  subst e1 e2 e3 hp
  exact Go.via st' (g U U.heap B' v ((Wk.after i0 hz hB hZ hown hS hq hF X2 hS2 r1 r2 r3 r4 r5 r6).mono hk1 hn1) r6 r4 r7)
theorem W.callI (X : Wk l Z EL y bytes maxL ret R B0 p e s m args below meth c B T h k n) {index : Nat} {count : Nat} {z : MethodName} {zi : MethodName} {C : String} {zb : ByteArray} {zl W : Nat} {zr : Option FieldType} {rm : Room} {as' : Array Value} {Qc : Option Value → Heap → (Addr → Prop) → Prop} {argsL stk : List Value} (K : Con l Z EL [] z zb zl zr rm B h as' Qc) (w1 : (Jvm.Cond.methodLink y.cls index zi).before a0 Z = true) (w2 : (Jvm.Cond.declares zi).before a0 Z = true) (w3 : (Jvm.Cond.interfaceMethod zi.cls zi.cls zi.name zi.desc).before a0 Z = true) (w4 : (Jvm.Cond.selects C zi z).before a0 Z = true) (w5 : (Jvm.Cond.instanceMethod z).before a0 Z = true) (w6 : (Jvm.Cond.publicMethod z).before a0 Z = true) (w7 : (Jvm.Cond.unhidden C zi.name zi.desc).before a0 Z = true) (w8 : (Jvm.Cond.castable C zi.cls).before a0 Z = true) (E : Exa Z h a C) (wc : (Jvm.Cond.code z zb zl zr).before a0 Z = true) (wz : (Jvm.Cond.initialized z.cls).before a0 Z = true) (hy : zi.cls ≠ "java/lang/invoke/MethodHandle" ∧ zi.cls ≠ "java/lang/invoke/VarHandle") (hf : rm.frames + 1 ≤ R.frames) (hl : W + (zl + 11) + rm.locals ≤ R.locals) (hsize : ls.size = maxL)
    (hlen : ∀ sig, parseMethodDescriptor zi.desc = some sig → argsL.length = sig.parameters.length) (has : (.ref a :: argsL).toArray = as') (hstk : stk = argsL.reverse ++ .ref a :: st) (hW : (st.map fun v => v.category).sum ≤ W) (hd : decode bytes pc = .ok (.invokeinterface index count, 5)) (hp : pc + 5 = pc') {k' n' : Nat} (hk1 : k + rm.cells ≤ k') (hn1 : n + rm.slots ≤ n') (hk2 : k' ≤ R.cells) (hn2 : n' ≤ R.slots)
    (g : ∀ T' h' B' v, Wk l Z EL y bytes maxL ret R B0 p e s m args below meth c B' T' h' k' n' → h.size ≤ h'.size → (∀ x, B' x → B x ∨ h.size ≤ x) → Qc v h' B' → Go l Z EL R B0 Q p e s m below T' pc' ls (v.toList ++ st)) : Go l Z EL R B0 Q p e s m below T pc ls stk := by
  obtain ⟨i0, hE, hz, hB, V, locs, q0, X1, eT, hZ, hown, hS, hq, hF, hC, hK⟩ := X
  obtain ⟨a1, hEL⟩ := i0.2.2.2.2.2.2
  obtain ⟨cB, kB, j1, j2, j3⟩ := isOf (s := s.setVm V) hZ eT E
  obtain ⟨v, vm₁, ⟨U, Lu, ku, nu⟩, hWv, X2, hS2, hgr, ⟨L, B', e1, e2, e3, r1, r2, r3, r4, r5, r6, r7⟩, st'⟩ := X1.interfaceBackS i0.1 (xi := zi) (y := z) hown (mv (s := s.setVm V) hZ w1) (mv (s := s.setVm V) hZ w2) (mv (s := s.setVm V) hZ w3 (by simp [Cond.onTables, Cond.keepsFace, Cond.keeps, Cond.steady, Cond.faceAtom, hy.1, hy.2])) (mv (s := s.setVm V) hZ w4) (mv (s := s.setVm V) hZ w5) (mv (s := s.setVm V) hZ w6) (mv (s := s.setVm V) hZ w7) (mv (s := s.setVm V) hZ w8) hy (BackS.con K hZ wc wz hf hl hEL hC hK) j1 j2 j3 (g := mkF m pc ls stk) rfl (hsize.trans i0.2.2.1.symm) (Steps.refl _) (argsL := argsL) (rest := st) hlen hstk (by show 2 * 0 + _ ≤ _; omega) (i0.2.1 ▸ hd) (fun _ _ => ⟨has, eT, by show k + _ ≤ _; omega, by show n + _ ≤ _; omega⟩)
  dsimp only [Pt.U, Pt.locs, Pt.cells, Pt.slots] at X2 hS2 hgr e1 e2 e3 r2 r3 r5 r6 r7 st'
  subst e1 e2 e3 hp
  exact Go.via st' (g U U.heap B' v ((Wk.after i0 hz hB hZ hown hS hq hF X2 hS2 r1 r2 r3 r4 r5 r6).mono hk1 hn1) r6 r4 r7)
theorem W.callN (X : Wk l Z EL y bytes maxL ret R B0 p e s m args below meth c B T h k n) {index : Nat} {z : MethodName} {zb : ByteArray} {zl W : Nat} {rm : Room} {as' : Array Value} {Qc : Option Value → Heap → (Addr → Prop) → Prop} {argsL stk : List Value} (K : Con l Z EL [] z zb zl none rm B h as' Qc) (hn : z.name = "<init>") (w1 : (Jvm.Cond.methodLink y.cls index z).before a0 Z = true) (w2 : (Jvm.Cond.instanceMethod z).before a0 Z = true) (wc : (Jvm.Cond.code z zb zl none).before a0 Z = true) (wz : (Jvm.Cond.initialized z.cls).before a0 Z = true) (hy : z.cls ≠ "java/lang/invoke/MethodHandle" ∧ z.cls ≠ "java/lang/invoke/VarHandle") (hf : rm.frames + 1 ≤ R.frames) (hl : W + (zl + 11) + rm.locals ≤ R.locals) (hsize : ls.size = maxL)
    (hlen : ∀ sig, parseMethodDescriptor z.desc = some sig → argsL.length = sig.parameters.length) (has : (.ref a :: argsL).toArray = as') (hstk : stk = argsL.reverse ++ .ref a :: st) (hW : (st.map fun v => v.category).sum ≤ W) (hd : decode bytes pc = .ok (.invokespecial index, 3)) (hp : pc + 3 = pc') {k' n' : Nat} (hk1 : k + rm.cells ≤ k') (hn1 : n + rm.slots ≤ n') (hk2 : k' ≤ R.cells) (hn2 : n' ≤ R.slots)
    (g : ∀ T' h' B' v, Wk l Z EL y bytes maxL ret R B0 p e s m args below meth c B' T' h' k' n' → h.size ≤ h'.size → (∀ x, B' x → B x ∨ h.size ≤ x) → Qc v h' B' → Go l Z EL R B0 Q p e s m below T' pc' ls (v.toList ++ st)) : Go l Z EL R B0 Q p e s m below T pc ls stk := by
  obtain ⟨i0, hE, hz, hB, V, locs, q0, X1, eT, hZ, hown, hS, hq, hF, hC, hK⟩ := X
  obtain ⟨a1, hEL⟩ := i0.2.2.2.2.2.2
  obtain ⟨v, vm₁, ⟨U, Lu, ku, nu⟩, hWv, X2, hS2, hgr, ⟨L, B', e1, e2, e3, r1, r2, r3, r4, r5, r6, r7⟩, st'⟩ := X1.specialBackS i0.1 (y := z) hn hown (mv (s := s.setVm V) hZ w1) (mv (s := s.setVm V) hZ w2) (mv (s := s.setVm V) hZ wc) hy (BackS.con K hZ wc wz hf hl hEL hC hK) (g := mkF m pc ls stk) rfl (hsize.trans i0.2.2.1.symm) (Steps.refl _) (a := a) (argsL := argsL) (rest := st) hlen hstk (by show 2 * 0 + _ ≤ _; omega) (i0.2.1 ▸ hd) (fun _ _ => ⟨has, eT, by show k + _ ≤ _; omega, by show n + _ ≤ _; omega⟩)
  dsimp only [Pt.U, Pt.locs, Pt.cells, Pt.slots] at X2 hS2 hgr e1 e2 e3 r2 r3 r5 r6 r7 st'
  subst e1 e2 e3 hp
  exact Go.via st' (g U U.heap B' v ((Wk.after i0 hz hB hZ hown hS hq hF X2 hS2 r1 r2 r3 r4 r5 r6).mono hk1 hn1) r6 r4 r7)
theorem W.callU (X : Wk l Z EL y bytes maxL ret R B0 p e s m args below meth c B T h k n) {index : Nat} {z : MethodName} {zi : MethodName} {C : String} {owner : String} {zb : ByteArray} {zl W : Nat} {zr : Option FieldType} {rm : Room} {as' : Array Value} {Qc : Option Value → Heap → (Addr → Prop) → Prop} {argsL stk : List Value} (K : Con l Z EL [] z zb zl zr rm B h as' Qc) (w1 : (Jvm.Cond.methodLink y.cls index zi).before a0 Z = true) (w2 : (Jvm.Cond.sameMethod zi.cls owner zi.name zi.desc).before a0 Z = true) (w3 : (Jvm.Cond.declares ⟨owner, zi.name, zi.desc⟩).before a0 Z = true) (ho : owner ≠ "java/lang/invoke/MethodHandle" ∧ owner ≠ "java/lang/invoke/VarHandle") (w4 : (Jvm.Cond.selects C zi z).before a0 Z = true) (w5 : (Jvm.Cond.instanceMethod z).before a0 Z = true) (E : Exa Z h a C) (wc : (Jvm.Cond.code z zb zl zr).before a0 Z = true) (wz : (Jvm.Cond.initialized z.cls).before a0 Z = true)  (hf : rm.frames + 1 ≤ R.frames) (hl : W + (zl + 11) + rm.locals ≤ R.locals) (hsize : ls.size = maxL)
    (hlen : ∀ sig, parseMethodDescriptor zi.desc = some sig → argsL.length = sig.parameters.length) (has : (.ref a :: argsL).toArray = as') (hstk : stk = argsL.reverse ++ .ref a :: st) (hW : (st.map fun v => v.category).sum ≤ W) (hd : decode bytes pc = .ok (.invokevirtual index, 3)) (hp : pc + 3 = pc') {k' n' : Nat} (hk1 : k + rm.cells ≤ k') (hn1 : n + rm.slots ≤ n') (hk2 : k' ≤ R.cells) (hn2 : n' ≤ R.slots)
    (g : ∀ T' h' B' v, Wk l Z EL y bytes maxL ret R B0 p e s m args below meth c B' T' h' k' n' → h.size ≤ h'.size → (∀ x, B' x → B x ∨ h.size ≤ x) → Qc v h' B' → Go l Z EL R B0 Q p e s m below T' pc' ls (v.toList ++ st)) : Go l Z EL R B0 Q p e s m below T pc ls stk := by
  obtain ⟨i0, hE, hz, hB, V, locs, q0, X1, eT, hZ, hown, hS, hq, hF, hC, hK⟩ := X
  obtain ⟨a1, hEL⟩ := i0.2.2.2.2.2.2
  obtain ⟨cB, kB, j1, j2, j3⟩ := isOf (s := s.setVm V) hZ eT E
  obtain ⟨v, vm₁, ⟨U, Lu, ku, nu⟩, hWv, X2, hS2, hgr, ⟨L, B', e1, e2, e3, r1, r2, r3, r4, r5, r6, r7⟩, st'⟩ := X1.virtualBackUpS i0.1 (x := zi) (y := z) (owner := owner) hown (mv (s := s.setVm V) hZ w1) (mv (s := s.setVm V) hZ w2) (mv (s := s.setVm V) hZ w3) ho (mv (s := s.setVm V) hZ w4) (mv (s := s.setVm V) hZ w5) (BackS.con K hZ wc wz hf hl hEL hC hK) j1 j3 (g := mkF m pc ls stk) rfl (hsize.trans i0.2.2.1.symm) (Steps.refl _) (argsL := argsL) (rest := st) hlen hstk (by show 2 * 0 + _ ≤ _; omega) (i0.2.1 ▸ hd) (fun _ _ => ⟨has, eT, by show k + _ ≤ _; omega, by show n + _ ≤ _; omega⟩)
  dsimp only [Pt.U, Pt.locs, Pt.cells, Pt.slots] at X2 hS2 hgr e1 e2 e3 r2 r3 r5 r6 r7 st'
  subst e1 e2 e3 hp
  exact Go.via st' (g U U.heap B' v ((Wk.after i0 hz hB hZ hown hS hq hF X2 hS2 r1 r2 r3 r4 r5 r6).mono hk1 hn1) r6 r4 r7)
theorem privAt {s : State} {z : MethodName} (hZ : Z.Warmed39 s.vm) (w : (Jvm.Cond.privateMethod z).before a0 Z = true) : s.PrivateAt z := Cond.privateMethod_at (mvP (args := #[]) hZ w)
theorem W.callP (X : Wk l Z EL y bytes maxL ret R B0 p e s m args below meth c B T h k n) {index : Nat} {z : MethodName} {C : String} {zb : ByteArray} {zl W : Nat} {zr : Option FieldType} {rm : Room} {as' : Array Value} {Qc : Option Value → Heap → (Addr → Prop) → Prop} {argsL stk : List Value} (K : Con l Z EL [] z zb zl zr rm B h as' Qc) (w1 : (Jvm.Cond.methodLink y.cls index z).before a0 Z = true) (w2 : (Jvm.Cond.instanceMethod z).before a0 Z = true) (w3 : NotFace Z z) (w4 : (Jvm.Cond.privateMethod z).before a0 Z = true) (E : Exa Z h a C) (wc : (Jvm.Cond.code z zb zl zr).before a0 Z = true) (wz : (Jvm.Cond.initialized z.cls).before a0 Z = true) (hy : z.cls ≠ "java/lang/invoke/MethodHandle" ∧ z.cls ≠ "java/lang/invoke/VarHandle") (hf : rm.frames + 1 ≤ R.frames) (hl : W + (zl + 11) + rm.locals ≤ R.locals) (hsize : ls.size = maxL)
    (hlen : ∀ sig, parseMethodDescriptor z.desc = some sig → argsL.length = sig.parameters.length) (has : (.ref a :: argsL).toArray = as') (hstk : stk = argsL.reverse ++ .ref a :: st) (hW : (st.map fun v => v.category).sum ≤ W) (hd : decode bytes pc = .ok (.invokevirtual index, 3)) (hp : pc + 3 = pc') {k' n' : Nat} (hk1 : k + rm.cells ≤ k') (hn1 : n + rm.slots ≤ n') (hk2 : k' ≤ R.cells) (hn2 : n' ≤ R.slots)
    (g : ∀ T' h' B' v, Wk l Z EL y bytes maxL ret R B0 p e s m args below meth c B' T' h' k' n' → h.size ≤ h'.size → (∀ x, B' x → B x ∨ h.size ≤ x) → Qc v h' B' → Go l Z EL R B0 Q p e s m below T' pc' ls (v.toList ++ st)) : Go l Z EL R B0 Q p e s m below T pc ls stk := by
  obtain ⟨i0, hE, hz, hB, V, locs, q0, X1, eT, hZ, hown, hS, hq, hF, hC, hK⟩ := X
  obtain ⟨a1, hEL⟩ := i0.2.2.2.2.2.2
  have w3' : NotFace (s.setVm V) z := fun r0 h0 => by
    have h0' : (Z.setVm V).methodNamed? z = some r0 := h0
    rw [State.methodNamed?_setVm hZ.alike] at h0'
    obtain ⟨kr, q1, q2⟩ := w3 r0 h0'
    obtain ⟨k2, q3, q4⟩ := hZ.alike.2.2 _ _ q1
    exact ⟨k2, q3, by rw [q4]; exact q2⟩
  obtain ⟨cellP, hcP, hobj⟩ := Exa.cell E
  have hcell : T.heap[a]? = some cellP := by rw [eT]; exact hcP
  obtain ⟨mkP, methP, hnP, -⟩ := Cond.instanceMethod_spec (mv (args := args) (s := s.setVm V) hZ w2)
  obtain ⟨kP, hkP, hkPi⟩ := w3' mkP hnP
  have hsel : (Jvm.Cond.selects z.cls z z).before args (s.setVm V) = true := Jvm.Stand.selects_self_of_private (findClass_of_methodNamed hnP) hkP hkPi (privAt (s := s.setVm V) hZ w4) (mv (s := s.setVm V) hZ w2) hy
  obtain ⟨v, vm₁, ⟨U, Lu, ku, nu⟩, hWv, X2, hS2, hgr, ⟨L, B', e1, e2, e3, r1, r2, r3, r4, r5, r6, r7⟩, st'⟩ := X1.privateBackS i0.1 (y := z) hown (mv (s := s.setVm V) hZ w1) (mv (s := s.setVm V) hZ w2) hsel (privAt (s := s.setVm V) hZ w4) (mv (s := s.setVm V) hZ wc) hy (BackS.con K hZ wc wz hf hl hEL hC hK) (g := mkF m pc ls stk) rfl (hsize.trans i0.2.2.1.symm) (Steps.refl _) hcell hobj (argsL := argsL) (rest := st) hlen hstk (by show 2 * 0 + _ ≤ _; omega) (i0.2.1 ▸ hd) (fun _ _ => ⟨has, eT, by show k + _ ≤ _; omega, by show n + _ ≤ _; omega⟩)
  dsimp only [Pt.U, Pt.locs, Pt.cells, Pt.slots] at X2 hS2 hgr e1 e2 e3 r2 r3 r5 r6 r7 st'
  subst e1 e2 e3 hp
  exact Go.via st' (g U U.heap B' v ((Wk.after i0 hz hB hZ hown hS hq hF X2 hS2 r1 r2 r3 r4 r5 r6).mono hk1 hn1) r6 r4 r7)
theorem W.callX (X : Wk l Z EL y bytes maxL ret R B0 p e s m args below meth c B T h k n) {index : Nat} {z : MethodName} {C : String} {zb : ByteArray} {zl W : Nat} {zr : Option FieldType} {rm : Room} {as' : Array Value} {Qc : Option Value → Heap → (Addr → Prop) → Prop} {argsL stk : List Value} (K : Con l Z EL [] z zb zl zr rm B h as' Qc) (w1 : (Jvm.Cond.methodLink y.cls index z).before a0 Z = true) (w2 : (Jvm.Cond.sameMethod z.cls z.cls z.name z.desc).before a0 Z = true) (w3 : (Jvm.Cond.instanceMethod z).before a0 Z = true) (w4 : (Jvm.Cond.superclass y.cls z.cls).before a0 Z = true) (hn : z.name ≠ "<init>") (E : Exa Z h a C) (wc : (Jvm.Cond.code z zb zl zr).before a0 Z = true) (wz : (Jvm.Cond.initialized z.cls).before a0 Z = true)  (hf : rm.frames + 1 ≤ R.frames) (hl : W + (zl + 11) + rm.locals ≤ R.locals) (hsize : ls.size = maxL)
    (hlen : ∀ sig, parseMethodDescriptor z.desc = some sig → argsL.length = sig.parameters.length) (has : (.ref a :: argsL).toArray = as') (hstk : stk = argsL.reverse ++ .ref a :: st) (hW : (st.map fun v => v.category).sum ≤ W) (hd : decode bytes pc = .ok (.invokespecial index, 3)) (hp : pc + 3 = pc') {k' n' : Nat} (hk1 : k + rm.cells ≤ k') (hn1 : n + rm.slots ≤ n') (hk2 : k' ≤ R.cells) (hn2 : n' ≤ R.slots)
    (g : ∀ T' h' B' v, Wk l Z EL y bytes maxL ret R B0 p e s m args below meth c B' T' h' k' n' → h.size ≤ h'.size → (∀ x, B' x → B x ∨ h.size ≤ x) → Qc v h' B' → Go l Z EL R B0 Q p e s m below T' pc' ls (v.toList ++ st)) : Go l Z EL R B0 Q p e s m below T pc ls stk := by
  obtain ⟨i0, hE, hz, hB, V, locs, q0, X1, eT, hZ, hown, hS, hq, hF, hC, hK⟩ := X
  obtain ⟨a1, hEL⟩ := i0.2.2.2.2.2.2
  obtain ⟨v, vm₁, ⟨U, Lu, ku, nu⟩, hWv, X2, hS2, hgr, ⟨L, B', e1, e2, e3, r1, r2, r3, r4, r5, r6, r7⟩, st'⟩ := Jvm.RoadKit.superBackS X1 i0.1 hZ hown w1 w2 w3 w4 hn (BackS.con K hZ wc wz hf hl hEL hC hK) eT (Ins.self E) (g := mkF m pc ls stk) rfl (hsize.trans i0.2.2.1.symm) wc (argsL := argsL) (rest := st) hlen hstk (by show 2 * 0 + _ ≤ _; omega) (i0.2.1 ▸ hd) (fun _ _ => ⟨has, eT, by show k + _ ≤ _; omega, by show n + _ ≤ _; omega⟩)
  dsimp only [Pt.U, Pt.locs, Pt.cells, Pt.slots] at X2 hS2 hgr e1 e2 e3 r2 r3 r5 r6 r7 st'
  subst e1 e2 e3 hp
  exact Go.via st' (g U U.heap B' v ((Wk.after i0 hz hB hZ hown hS hq hF X2 hS2 r1 r2 r3 r4 r5 r6).mono hk1 hn1) r6 r4 r7)
theorem kp {xv : Value} (g : ∀ T', Wk l Z EL y bytes maxL ret R B0 p e s m args below meth c B T' h k n → Go l Z EL R B0 Q p e s m below T' pc' ls (xv :: st)) : ∀ T' h' B' v, Wk l Z EL y bytes maxL ret R B0 p e s m args below meth c B' T' h' k n → h.size ≤ h'.size → (∀ x, B' x → B x ∨ h.size ≤ x) → (v = some xv ∧ h' = h ∧ B' = B) → Go l Z EL R B0 Q p e s m below T' pc' ls (v.toList ++ st) := by
  rintro T' h' B' v X - - ⟨rfl, rfl, rfl⟩; exact g T' X
theorem kpv (g : ∀ T', Wk l Z EL y bytes maxL ret R B0 p e s m args below meth c B T' h k n → Go l Z EL R B0 Q p e s m below T' pc' ls st) : ∀ T' h' B' v, Wk l Z EL y bytes maxL ret R B0 p e s m args below meth c B' T' h' k n → h.size ≤ h'.size → (∀ x, B' x → B x ∨ h.size ≤ x) → (v = none ∧ h' = h ∧ B' = B) → Go l Z EL R B0 Q p e s m below T' pc' ls (v.toList ++ st) := by
  rintro T' h' B' v X - - ⟨rfl, rfl, rfl⟩; exact g T' X
theorem kr {Qc : Value → Heap → Prop} (g : ∀ T' h' x, Wk l Z EL y bytes maxL ret R B0 p e s m args below meth c B T' h' k n → h.size ≤ h'.size → Qc x h' → Go l Z EL R B0 Q p e s m below T' pc' ls (x :: st)) : ∀ T' h' B' v, Wk l Z EL y bytes maxL ret R B0 p e s m args below meth c B' T' h' k n → h.size ≤ h'.size → (∀ x, B' x → B x ∨ h.size ≤ x) → (∃ x, v = some x ∧ B' = B ∧ Qc x h') → Go l Z EL R B0 Q p e s m below T' pc' ls (v.toList ++ st) := by
  rintro T' h' B' v X z - ⟨x, rfl, rfl, q⟩; exact g T' h' x X z q
theorem kv {Qc : Heap → Prop} (g : ∀ T' h', Wk l Z EL y bytes maxL ret R B0 p e s m args below meth c B T' h' k n → h.size ≤ h'.size → Qc h' → Go l Z EL R B0 Q p e s m below T' pc' ls st) : ∀ T' h' B' v, Wk l Z EL y bytes maxL ret R B0 p e s m args below meth c B' T' h' k n → h.size ≤ h'.size → (∀ x, B' x → B x ∨ h.size ≤ x) → (v = none ∧ B' = B ∧ Qc h') → Go l Z EL R B0 Q p e s m below T' pc' ls (v.toList ++ st) := by
  rintro T' h' B' v X z - ⟨rfl, rfl, q⟩; exact g T' h' X z q
theorem kri {Qc : Value → Heap → (Addr → Prop) → Prop} (g : ∀ T' h' B' x, Wk l Z EL y bytes maxL ret R B0 p e s m args below meth c B' T' h' k n → h.size ≤ h'.size → (∀ x, B' x → B x ∨ h.size ≤ x) → Qc x h' B' → Go l Z EL R B0 Q p e s m below T' pc' ls (x :: st)) : ∀ T' h' B' v, Wk l Z EL y bytes maxL ret R B0 p e s m args below meth c B' T' h' k n → h.size ≤ h'.size → (∀ x, B' x → B x ∨ h.size ≤ x) → (∃ x, v = some x ∧ Qc x h' B') → Go l Z EL R B0 Q p e s m below T' pc' ls (v.toList ++ st) := by
  rintro T' h' B' v X z zb ⟨x, rfl, q⟩; exact g T' h' B' x X z zb q
theorem kvi {Qc : Heap → (Addr → Prop) → Prop} (g : ∀ T' h' B', Wk l Z EL y bytes maxL ret R B0 p e s m args below meth c B' T' h' k n → h.size ≤ h'.size → (∀ x, B' x → B x ∨ h.size ≤ x) → Qc h' B' → Go l Z EL R B0 Q p e s m below T' pc' ls st) : ∀ T' h' B' v, Wk l Z EL y bytes maxL ret R B0 p e s m args below meth c B' T' h' k n → h.size ≤ h'.size → (∀ x, B' x → B x ∨ h.size ≤ x) → (v = none ∧ Qc h' B') → Go l Z EL R B0 Q p e s m below T' pc' ls (v.toList ++ st) := by
  rintro T' h' B' v X z zb ⟨rfl, q⟩; exact g T' h' B' X z zb q
/-! System.arraycopy -/
theorem range_getD {vs : List Value} {i len : Nat} (d : Value) (hl : i + len ≤ vs.length) : (List.range len).map (fun q => vs.getD (i + q) d) = (vs.drop i).take len := by
  apply List.ext_getElem?
  intro j
  by_cases hj : j < len
  · rw [List.getElem?_map, List.getElem?_range hj, List.getElem?_take_of_lt hj, List.getElem?_drop]
    simp only [Option.map_some, List.getD_eq_getElem?_getD]
    rw [List.getElem?_eq_getElem (by omega : i + j < vs.length)]; rfl
  · rw [List.getElem?_eq_none (by simpa using hj), List.getElem?_eq_none (by simp; omega)]
theorem W.acopy (X : Wk l Z EL y bytes maxL ret R B0 p e s m args below meth c B T h k n) {index W : Nat} {sp dp nn : Int32} {i j len : Nat} {us : List Value} (A : Ar Z h a ty vs) (D : Ar Z h b ty us) (w1 : (Jvm.Cond.methodLink y.cls index Jvm.Stand.acN).before a0 Z = true) (w2 : (Jvm.Cond.native Jvm.Stand.acN).before a0 Z = true) (w3 : (Jvm.Cond.static Jvm.Stand.acN).before a0 Z = true) (w4 : (Jvm.Cond.initialized "java/lang/System").before a0 Z = true) (hty : refKind ty = false)
    (h1 : i.toInt32 = sp) (h2 : j.toInt32 = dp) (h3 : len.toInt32 = nn) (h4 : i + len ≤ vs.length) (h5 : j + len ≤ us.length) (ha : Z.heap.size ≤ b) (hnb : ¬ B b) (hsize : ls.size = maxL) (hf : 1 ≤ R.frames) (hW : (st.map fun v => v.category).sum ≤ W) (hlo : W + (nativeFrameWords "java/lang/System" "arraycopy" 5 + 11) ≤ R.locals) (hd : decode bytes pc = .ok (.invokestatic index, 3)) (hp : pc + 3 = pc')
    (g : ∀ T' h', Wk l Z EL y bytes maxL ret R B0 p e s m args below meth c B T' h' k n → Keep h h' [b] → Ar Z h' b ty (us.take j ++ (vs.drop i).take len ++ us.drop (j + len)) → Go l Z EL R B0 Q p e s m below T' pc' ls st) : Go l Z EL R B0 Q p e s m below T pc ls (.int nn :: .int dp :: .ref b :: .int sp :: .ref a :: st) := by
  obtain ⟨i0, hE, hz, hB, V, locs, q0, X1, eT, hZ, hown, hS, hq, hF, hC, hK⟩ := X
  have hv := A.len_lt
  have hu := D.len_lt
  subst h1 h2 h3 hp
  obtain ⟨n1, e1, -⟩ := len32 (show i < 2 ^ 31 by omega)
  obtain ⟨n2, e2, -⟩ := len32 (show j < 2 ^ 31 by omega)
  obtain ⟨n3, e3, -⟩ := len32 (show len < 2 ^ 31 by omega)
  obtain ⟨n4, e4, -⟩ := len32 hv
  obtain ⟨n5, e5, -⟩ := len32 hu
  obtain ⟨ka, A'⟩ := A.toArv rfl (.int 0)
  obtain ⟨kb, D'⟩ := D.toArv rfl (.int 0)
  obtain ⟨T', h', L, X', e', N', K', R', st'⟩ := RoadKit.cpA X1 i0.1 hZ hown w1 w2 w3 w4 eT A' D' (us := (List.range len).map fun q => vs.getD (i + q) (.int 0)) (Or.inl ⟨rfl, hty⟩) n1 n2 n3 (by rw [e1, e3, e4]; exact h4) (by rw [e2, e3, e5]; exact h5) (by rw [e1, e3]) (by rw [e2, e3]; exact h5) hF ha (g := mkF m pc ls (.int len.toInt32 :: .int j.toInt32 :: .ref b :: .int i.toInt32 :: .ref a :: st)) rfl (hsize.trans i0.2.2.1.symm) rfl (i0.2.1 ▸ hd) hf (W := W) (by show 2 * 0 + _ ≤ _; omega) hlo
  rw [range_getD _ h4, e2, e3] at R'
  have S : ∀ x ∈ [b], Safe Z EL V h x := fun x hx => by cases List.mem_singleton.mp hx; exact fun r => hnb (hK b r)
  have hO := (Old.keep (n0 := Z.heap.size) ⟨rfl, hE.1⟩ K' (allS ha all0)).2
  exact Go.step st' (g T' h' ⟨i0, ⟨hO, fun x r => Nat.lt_of_lt_of_le (hE.2 x r) K'.1⟩, Nat.le_trans hz K'.1, hB, V, L, q0, X', e', hZ, hown, hS, Nat.le_trans hq K'.1, N', hC.keep K' S, fun x r => hK x ((hC.keepStep K' S).2 x r)⟩ K' (Ar.ofArv R' (by rw [e5]; simp; omega)))
/-! the end -/
theorem W.fin (X : Wk l Z EL y bytes maxL ret R B0 p e s m args below meth c B T h k n) {v : Option Value} (hv : ret = none → v = none) (hk : k ≤ R.cells) (hn : n ≤ R.slots) (q : Q v h B) (run : ∀ fs, (∀ (f : JFrame) (acts : List Action), f.method = m → f.locked = none → f.entered = [] → (doReturn e (T.setTop f) acts v).1 = T.setFrames fs) → Steps p.tables e below (T.setTop (mkF m pc ls st)) (T.setFrames fs)) : Go l Z EL R B0 Q p e s m below T pc ls st := by
  obtain ⟨i0, hE, hz, hB, V, locs, q0, X1, eT, hZ, hown, hS, hq, hF, hC, hK⟩ := X
  obtain ⟨a1, hEL⟩ := i0.2.2.2.2.2.2
  obtain ⟨fs, hr, hrun, hend, hW⟩ := X1.leaveW hS (by rw [eT]; exact hq) (v := v) (fun z => hv (i0.2.2.2.1.symm.trans z)) i0.2.2.2.2.1
  have eh : (T.setFrames fs).heap = h := eT
  have q1 := CHv.at X1 hZ hEL hC
  refine ⟨T.setFrames fs, _, run fs hr, hrun, hend, v, locs, B, rfl, hF, by rw [eh]; exact q1.1, fun x r => ?_, hB, by rw [eh]; exact hE, by rw [eh]; exact hz, by rw [eh]; exact q, hW.1, hW.2.1, hW.2.2.1, hW.2.2.2.mono hk hn⟩
  rw [eh] at r
  rcases q1.2.2 x r with z | z
  · exact hK x z
  · obtain ⟨cell, q2⟩ := r.there
    exact absurd (Array.getElem?_eq_some_iff.mp q2).1 (Nat.not_lt.mpr z)
theorem W.ireturn (X : Wk l Z EL y bytes maxL ret R B0 p e s m args below meth c B T h k n) {t : FieldType} {x : Int32} (hd : decode bytes pc = .ok (.ireturn, 1)) (hret : ret = some t) (ht : t = .int ∨ t = .boolean ∨ t = .byte ∨ t = .char ∨ t = .short) (hnw : narrow t (.int x) = .int x) (hk : k ≤ R.cells) (hn : n ≤ R.slots) (q : Q (some (.int x)) h B) : Go l Z EL R B0 Q p e s m below T pc ls (.int x :: st) := by
  have X0 := X
  obtain ⟨i0, hE, hz, hB, V, locs, q0, X1, eT, hZ, hown, hS, hq, hF, hC, hK⟩ := X
  exact W.fin X0 (fun z => by rw [hret] at z; cases z) hk hn q fun fs hl => RoadKit.retOut (i := .ireturn) X1 i0.1 (i0.2.2.2.1.trans hret) hnw (Or.inl ⟨rfl, ht, x, rfl⟩) (i0.2.1 ▸ hd) hl
theorem W.lreturn (X : Wk l Z EL y bytes maxL ret R B0 p e s m args below meth c B T h k n) {x : Int64} (hd : decode bytes pc = .ok (.lreturn, 1)) (hret : ret = some .long) (hk : k ≤ R.cells) (hn : n ≤ R.slots) (q : Q (some (.long x)) h B) : Go l Z EL R B0 Q p e s m below T pc ls (.long x :: st) := by
  have X0 := X
  obtain ⟨i0, hE, hz, hB, V, locs, q0, X1, eT, hZ, hown, hS, hq, hF, hC, hK⟩ := X
  exact W.fin X0 (fun z => by rw [hret] at z; cases z) hk hn q fun fs hl => RoadKit.retOut (i := .lreturn) X1 i0.1 (i0.2.2.2.1.trans hret) rfl (Or.inr (Or.inl ⟨rfl, rfl, x, rfl⟩)) (i0.2.1 ▸ hd) hl
theorem W.areturn (X : Wk l Z EL y bytes maxL ret R B0 p e s m args below meth c B T h k n) {t : FieldType} {v : Value} (hd : decode bytes pc = .ok (.areturn, 1)) (hret : ret = some t) (ht : t.isReference = true) (hv : v.isRef = true) (hnw : narrow t v = v) (hk : k ≤ R.cells) (hn : n ≤ R.slots) (q : Q (some v) h B) : Go l Z EL R B0 Q p e s m below T pc ls (v :: st) := by
  have X0 := X
  obtain ⟨i0, hE, hz, hB, V, locs, q0, X1, eT, hZ, hown, hS, hq, hF, hC, hK⟩ := X
  exact W.fin X0 (fun z => by rw [hret] at z; cases z) hk hn q fun fs hl => RoadKit.retOut (i := .areturn) X1 i0.1 (i0.2.2.2.1.trans hret) hnw (Or.inr (Or.inr (Or.inr (Or.inr ⟨rfl, ht, hv⟩)))) (i0.2.1 ▸ hd) hl
theorem W.vreturn (X : Wk l Z EL y bytes maxL ret R B0 p e s m args below meth c B T h k n) (hd : decode bytes pc = .ok (.return_, 1)) (hret : ret = none) (hk : k ≤ R.cells) (hn : n ≤ R.slots) (q : Q none h B) : Go l Z EL R B0 Q p e s m below T pc ls [] := by
  have X0 := X
  obtain ⟨i0, hE, hz, hB, V, locs, q0, X1, eT, hZ, hown, hS, hq, hF, hC, hK⟩ := X
  exact W.fin X0 (fun _ => rfl) hk hn q fun fs hl => X1.returnOut i0.1 (i0.2.2.2.1.trans hret) (i0.2.1 ▸ hd) hl
/-! the entry -/
theorem Con.intro {wl : List Jvm.Cond} {rm : Room} {as' : Array Value} (hpl : plainFor y = true) (hEW : EW Z a0 EL) (hE : En Z B h) (hef : ∀ m, entryFrame m as' maxL = mkF m 0 ls [])
    (body : ∀ p e s m below meth c T, s.heap = h → Wk l Z EL y bytes maxL ret rm B p e s m as' below meth c B T h 0 0 → Go l Z EL rm B Q p e s m below T 0 ls []) : Con l Z EL wl y bytes maxL ret rm B h as' Q := by
  refine MetFree.of_bodySF hpl hisR ?_
  intro p e s m args below meth c s₁ Bd hml0 hP hK
  obtain ⟨rfl, hZ, hh, hC, hBk⟩ := hP
  have X0 : Stand p l e rm s m args below meth c s₁ [] 0 0 := Stand.of_body Bd
  have e0 : s₁.heap = h := by rw [← hh, Bd.state]; rfl
  have hg : Go l Z EL rm B Q p e s m below s₁ 0 ls [] := body p e s m below meth c s₁ hh ⟨⟨Bd.exec, Bd.bytes, hml0, Bd.returns, Bd.notSynchronized, (name_of_methodNamed Bd.named Bd.method).1, a0, hEW⟩, hE, by rw [hh]; exact Nat.le_refl _, fun x r => Or.inl r, s.vm, [], s.heap.size, X0, e0, hZ, findClass_of_methodNamed Bd.named, (State.WarmedH.refl s).since _, by rw [hh]; exact Nat.le_refl _, Fr.nil _, hC, hBk⟩
  obtain ⟨s₂, o, h1, h2, h3, v, L, B', g1, g2, g3, g4, g5, g6, g7, g8, g9⟩ := hg
  rw [hh] at g5 g7
  exact ⟨s₂, o, castTop (hef m) h1, h2, h3, v, L, B', g1, g2, g3, g4, g5, g6, g7, g8, g9⟩
/-! String constants -/
theorem W.ldcO (X : Wk l Z EL y bytes maxL ret R B0 p e s m args below meth c B T h k n) {index cap : Nat} {text : String} (hEW : EW Z a0 EL) (w : (Jvm.Cond.stringLink y.cls index text).before a0 Z = true) (wS : ∀ a ∈ Bundle.stringAtoms, a.before a0 Z = true) (hd : decode bytes pc = .ok (.ldc index, 2)) (hcap : 4 * text.toList.length ≤ cap) (hbig : cap ≤ 536870912) (hp : pc + 2 = pc') {k' n' : Nat} (hk : k + 2 ≤ k') (hn : n + (cap + 4) ≤ n') (hk' : k' ≤ R.cells) (hn' : n' ≤ R.slots)
    (g : ∀ T' h' B' a, Wk l Z EL y bytes maxL ret R B0 p e s m args below meth c B' T' h' k' n' → Keep h h' [] → (∀ x, B' x → B x ∨ h.size ≤ x) → Go l Z EL R B0 Q p e s m below T' pc' ls (.ref a :: st)) : Go l Z EL R B0 Q p e s m below T pc ls st := by
  obtain ⟨i0, hE, hz, hB, V, locs, q0, X1, eT, hZ, hown, hS, hq, hF, hC, hK⟩ := X
  obtain ⟨a1, hEL⟩ := i0.2.2.2.2.2.2
  obtain ⟨a, T', h', k1, X', e', E, hS', hk1, hZ', hown', hr, -, st'⟩ := ldcOH X1 i0.1 hZ hown w wS eT hS hq hEW hC (g := mkF m pc ls st) rfl (i0.2.1 ▸ hd) hcap hbig (Nat.le_trans hk hk') (Nat.le_trans hn hn')
  subst hp
  let B' : Addr → Prop := fun x => B x ∨ (h.size ≤ x ∧ x < h'.size)
  have hB' : ∀ x, Bk Z EL T'.vm h' x → B' x := fun x r => (hr.2.2 x r).elim (fun z => Or.inl (hK x z)) fun z => by
    obtain ⟨cell, q⟩ := r.there
    exact Or.inr ⟨z, (Array.getElem?_eq_some_iff.mp q).1⟩
  refine Go.step st' (g T' h' B' a ⟨i0, ⟨(hE.ext E).1, fun x r => r.elim (fun z => Nat.lt_of_lt_of_le (hE.2 x z) E.1) fun z => z.2⟩, Nat.le_trans hz E.1, fun x r => r.elim (hB x) fun z => Or.inr (Nat.le_trans hz z.1), T'.vm, locs, k1, X'.mono hk hn, e', hZ', hown', hS', hk1, hF, hr.1, hB'⟩ (keepE E) (fun x r => r.imp id fun z => z.1))
theorem W.ldcR (X : Wk l Z EL y bytes maxL ret R B0 p e s m args below meth c B T h k n) {index cap : Nat} {text : String} {cs : List Int32} (hmem : (y.cls, index) ∈ EL) (w : (Jvm.Cond.stringLink y.cls index text).before a0 Z = true) (wS : ∀ a ∈ Bundle.stringAtoms, a.before a0 Z = true) (hEW : EW Z a0 EL) (ht : (∀ c ∈ text.toList, c.toNat < 256) ∧ text.toList.map (fun c => Value.int (Jvm.Lit.byteI c.toNat.toUInt16)) = by8 cs) (hlat : Lat cs) (hlen : cs.length < 2 ^ 31) (hd : decode bytes pc = .ok (.ldc index, 2)) (hcap : 4 * text.toList.length ≤ cap) (hbig : cap ≤ 536870912) (hp : pc + 2 = pc') {k' n' : Nat} (hk : k + 2 ≤ k') (hn : n + (cap + 4) ≤ n') (hk' : k' ≤ R.cells) (hn' : n' ≤ R.slots)
    (g : ∀ T' h' B' a b, Wk l Z EL y bytes maxL ret R B0 p e s m args below meth c B' T' h' k' n' → Keep h h' [] → (∀ x, B' x → B x ∨ h.size ≤ x) → Str Z h' a b cs → (∀ x, ¬ B' x → x ≠ a ∧ x ≠ b) → Go l Z EL R B0 Q p e s m below T' pc' ls (.ref a :: st)) : Go l Z EL R B0 Q p e s m below T pc ls st := by
  obtain ⟨i0, hE, hz, hB, V, locs, q0, X1, eT, hZ, hown, hS, hq, hF, hC, hK⟩ := X
  obtain ⟨q1, q2, q3⟩ := len32 hlen
  obtain ⟨a, T', h', k1, b, kb, X', e', E, hS', hk1, hZ', hown', f1, f2, f3, f4, la, lb, hr, -, hne, st'⟩ := ldcCH X1 i0.1 hZ hown w wS eT hS hq hEW hmem hC ht q1 (by rw [q2]; simp) (g := mkF m pc ls st) rfl (i0.2.1 ▸ hd) hcap hbig (Nat.le_trans hk hk') (Nat.le_trans hn hn')
  subst hp
  let B' : Addr → Prop := fun x => B x ∨ (h.size ≤ x ∧ x < h'.size)
  have hB' : ∀ x, Bk Z EL T'.vm h' x → B' x := fun x r => (hr.2.2 x r).elim (fun z => Or.inl (hK x z)) fun z => by
    obtain ⟨cell, q⟩ := r.there
    exact Or.inr ⟨z, (Array.getElem?_eq_some_iff.mp q).1⟩
  refine Go.step st' (g T' h' B' a b ⟨i0, ⟨(hE.ext E).1, fun x r => r.elim (fun z => Nat.lt_of_lt_of_le (hE.2 x z) E.1) fun z => z.2⟩, Nat.le_trans hz E.1, fun x r => r.elim (hB x) fun z => Or.inr (Nat.le_trans hz z.1), T'.vm, locs, k1, X'.mono hk hn, e', hZ', hown', hS', hk1, hF, hr.1, hB'⟩ (keepE E) (fun x r => r.imp id fun z => z.1) ⟨f1, f2, f3, Ar.ofArv f4 (by rw [q2]; simp), hlat⟩ fun x r => hne x fun z => r (hB' x z))

end Own
end Own
end Jvm.Pilot.@@N@@

namespace Jvm.Pilot.@@N@@
open Jvm Jvm.ClassFile Sem Op Lib Jvm.Free Jvm.Stand Jvm.LawKit Jvm.RoadKit Bundle Jvm.Pilot.@@N@@.Jvm.D Own Jvm.Free.XT

def Gl (Z : State) (a0 : Array Value) (zC : Int32) (fS : Value) (e0 : Addr) (e1 : Addr) (e2 : Addr) : Prop := (∀ d ∈ tables_1, d.before a0 Z = true) ∧ EW Z a0 consts_1 ∧ Sta Z Z.heap "java/lang/String" "COMPACT_STRINGS" "Z" (.int zC) ∧ ¬ zC = 0 ∧ Sta Z Z.heap "jdk/internal/util/Preconditions" "SIOOBE_FORMATTER" "Ljava/util/function/BiFunction;" fS ∧ fS.isRef = true ∧ Sta Z Z.heap "com/example/campo_grande/campogrande/SignatureAlgorithm" "SHA256" "Lcom/example/campo_grande/campogrande/SignatureAlgorithm;" (.ref e0) ∧ Sta Z Z.heap "com/example/campo_grande/campogrande/SignatureAlgorithm" "SHA1" "Lcom/example/campo_grande/campogrande/SignatureAlgorithm;" (.ref e1) ∧ Sta Z Z.heap "com/example/campo_grande/campogrande/SignatureAlgorithm" "MD5" "Lcom/example/campo_grande/campogrande/SignatureAlgorithm;" (.ref e2) ∧ Exa Z Z.heap e0 "com/example/campo_grande/campogrande/SignatureAlgorithm" ∧ Fld Z Z.heap e0 "com/example/campo_grande/campogrande/SignatureAlgorithm" "digestLength" "I" (.int (32 : Int32)) ∧ Exa Z Z.heap e1 "com/example/campo_grande/campogrande/SignatureAlgorithm" ∧ Fld Z Z.heap e1 "com/example/campo_grande/campogrande/SignatureAlgorithm" "digestLength" "I" (.int (20 : Int32)) ∧ Exa Z Z.heap e2 "com/example/campo_grande/campogrande/SignatureAlgorithm" ∧ Fld Z Z.heap e2 "com/example/campo_grande/campogrande/SignatureAlgorithm" "digestLength" "I" (.int (16 : Int32)) ∧ True
theorem w0 {Z : State} {a0 : Array Value} {zC : Int32} {fS : Value} {e0 : Addr} {e1 : Addr} {e2 : Addr} (G : Gl Z a0 zC fS e0 e1 e2) : (Jvm.Cond.classLink "com/example/campo_grande/campogrande/PayloadDigestNamesPinLaw" (7 : Nat) "com/example/campo_grande/campogrande/ContentKey").before a0 Z = true := G.1 _ (List.mem_of_getElem? (i := 0) rfl)
theorem w1 {Z : State} {a0 : Array Value} {zC : Int32} {fS : Value} {e0 : Addr} {e1 : Addr} {e2 : Addr} (G : Gl Z a0 zC fS e0 e1 e2) : (Jvm.Cond.instantiable "com/example/campo_grande/campogrande/ContentKey" (4 : Nat)).before a0 Z = true := G.1 _ (List.mem_of_getElem? (i := 1) rfl)
theorem w2 {Z : State} {a0 : Array Value} {zC : Int32} {fS : Value} {e0 : Addr} {e1 : Addr} {e2 : Addr} (G : Gl Z a0 zC fS e0 e1 e2) : (Jvm.Cond.initialized "com/example/campo_grande/campogrande/ContentKey").before a0 Z = true := G.1 _ (List.mem_of_getElem? (i := 2) rfl)
theorem w3 {Z : State} {a0 : Array Value} {zC : Int32} {fS : Value} {e0 : Addr} {e1 : Addr} {e2 : Addr} (G : Gl Z a0 zC fS e0 e1 e2) : (Jvm.Cond.constant "com/example/campo_grande/campogrande/PayloadDigestNamesPinLaw" (9 : Nat) (2147483647 : Int32)).before a0 Z = true := G.1 _ (List.mem_of_getElem? (i := 3) rfl)
theorem w4 {Z : State} {a0 : Array Value} {zC : Int32} {fS : Value} {e0 : Addr} {e1 : Addr} {e2 : Addr} (G : Gl Z a0 zC fS e0 e1 e2) : (Jvm.Cond.methodLink "com/example/campo_grande/campogrande/PayloadDigestNamesPinLaw" (10 : Nat) ({ cls := "com/example/campo_grande/campogrande/PayloadDigestNamesPinLaw", name := "alg", desc := "(I)Lcom/example/campo_grande/campogrande/SignatureAlgorithm;" } : Jvm.MethodName)).before a0 Z = true := G.1 _ (List.mem_of_getElem? (i := 4) rfl)
theorem w5 {Z : State} {a0 : Array Value} {zC : Int32} {fS : Value} {e0 : Addr} {e1 : Addr} {e2 : Addr} (G : Gl Z a0 zC fS e0 e1 e2) : (Jvm.Cond.static ({ cls := "com/example/campo_grande/campogrande/PayloadDigestNamesPinLaw", name := "alg", desc := "(I)Lcom/example/campo_grande/campogrande/SignatureAlgorithm;" } : Jvm.MethodName)).before a0 Z = true := G.1 _ (List.mem_of_getElem? (i := 5) rfl)
theorem w6 {Z : State} {a0 : Array Value} {zC : Int32} {fS : Value} {e0 : Addr} {e1 : Addr} {e2 : Addr} (G : Gl Z a0 zC fS e0 e1 e2) : (Jvm.Cond.initialized "com/example/campo_grande/campogrande/PayloadDigestNamesPinLaw").before a0 Z = true := G.1 _ (List.mem_of_getElem? (i := 6) rfl)
theorem w7 {Z : State} {a0 : Array Value} {zC : Int32} {fS : Value} {e0 : Addr} {e1 : Addr} {e2 : Addr} (G : Gl Z a0 zC fS e0 e1 e2) : (Jvm.Cond.code ({ cls := "com/example/campo_grande/campogrande/PayloadDigestNamesPinLaw", name := "alg", desc := "(I)Lcom/example/campo_grande/campogrande/SignatureAlgorithm;" } : Jvm.MethodName) method_3_code (1 : Nat) (Option.some (Jvm.ClassFile.FieldType.object "com/example/campo_grande/campogrande/SignatureAlgorithm"))).before a0 Z = true := G.1 _ (List.mem_of_getElem? (i := 7) rfl)
theorem w8 {Z : State} {a0 : Array Value} {zC : Int32} {fS : Value} {e0 : Addr} {e1 : Addr} {e2 : Addr} (G : Gl Z a0 zC fS e0 e1 e2) : (Jvm.Cond.fieldLink "com/example/campo_grande/campogrande/PayloadDigestNamesPinLaw" (32 : Nat) "com/example/campo_grande/campogrande/SignatureAlgorithm" "SHA256" "Lcom/example/campo_grande/campogrande/SignatureAlgorithm;").before a0 Z = true := G.1 _ (List.mem_of_getElem? (i := 8) rfl)
theorem w9 {Z : State} {a0 : Array Value} {zC : Int32} {fS : Value} {e0 : Addr} {e1 : Addr} {e2 : Addr} (G : Gl Z a0 zC fS e0 e1 e2) : (Jvm.Cond.initialized "com/example/campo_grande/campogrande/SignatureAlgorithm").before a0 Z = true := G.1 _ (List.mem_of_getElem? (i := 9) rfl)
theorem w11 {Z : State} {a0 : Array Value} {zC : Int32} {fS : Value} {e0 : Addr} {e1 : Addr} {e2 : Addr} (G : Gl Z a0 zC fS e0 e1 e2) : (Jvm.Cond.methodLink "com/example/campo_grande/campogrande/PayloadDigestNamesPinLaw" (16 : Nat) ({ cls := "com/example/campo_grande/campogrande/PayloadDigestNamesPinLaw", name := "sig", desc := "(IIIII)Ljava/lang/String;" } : Jvm.MethodName)).before a0 Z = true := G.1 _ (List.mem_of_getElem? (i := 11) rfl)
theorem w12 {Z : State} {a0 : Array Value} {zC : Int32} {fS : Value} {e0 : Addr} {e1 : Addr} {e2 : Addr} (G : Gl Z a0 zC fS e0 e1 e2) : (Jvm.Cond.static ({ cls := "com/example/campo_grande/campogrande/PayloadDigestNamesPinLaw", name := "sig", desc := "(IIIII)Ljava/lang/String;" } : Jvm.MethodName)).before a0 Z = true := G.1 _ (List.mem_of_getElem? (i := 12) rfl)
theorem w13 {Z : State} {a0 : Array Value} {zC : Int32} {fS : Value} {e0 : Addr} {e1 : Addr} {e2 : Addr} (G : Gl Z a0 zC fS e0 e1 e2) : (Jvm.Cond.code ({ cls := "com/example/campo_grande/campogrande/PayloadDigestNamesPinLaw", name := "sig", desc := "(IIIII)Ljava/lang/String;" } : Jvm.MethodName) method_5_code (9 : Nat) (Option.some (Jvm.ClassFile.FieldType.object "java/lang/String"))).before a0 Z = true := G.1 _ (List.mem_of_getElem? (i := 13) rfl)
theorem w14 {Z : State} {a0 : Array Value} {zC : Int32} {fS : Value} {e0 : Addr} {e1 : Addr} {e2 : Addr} (G : Gl Z a0 zC fS e0 e1 e2) : (Jvm.Cond.methodLink "com/example/campo_grande/campogrande/PayloadDigestNamesPinLaw" (52 : Nat) ({ cls := "com/example/campo_grande/campogrande/PayloadDigestNamesPinLaw", name := "hex", desc := "(I)C" } : Jvm.MethodName)).before a0 Z = true := G.1 _ (List.mem_of_getElem? (i := 14) rfl)
theorem w15 {Z : State} {a0 : Array Value} {zC : Int32} {fS : Value} {e0 : Addr} {e1 : Addr} {e2 : Addr} (G : Gl Z a0 zC fS e0 e1 e2) : (Jvm.Cond.static ({ cls := "com/example/campo_grande/campogrande/PayloadDigestNamesPinLaw", name := "hex", desc := "(I)C" } : Jvm.MethodName)).before a0 Z = true := G.1 _ (List.mem_of_getElem? (i := 15) rfl)
theorem w16 {Z : State} {a0 : Array Value} {zC : Int32} {fS : Value} {e0 : Addr} {e1 : Addr} {e2 : Addr} (G : Gl Z a0 zC fS e0 e1 e2) : (Jvm.Cond.code ({ cls := "com/example/campo_grande/campogrande/PayloadDigestNamesPinLaw", name := "hex", desc := "(I)C" } : Jvm.MethodName) method_4_code (1 : Nat) (Option.some Jvm.ClassFile.FieldType.char)).before a0 Z = true := G.1 _ (List.mem_of_getElem? (i := 16) rfl)
theorem w17 {Z : State} {a0 : Array Value} {zC : Int32} {fS : Value} {e0 : Addr} {e1 : Addr} {e2 : Addr} (G : Gl Z a0 zC fS e0 e1 e2) : (Jvm.Cond.stringLink "com/example/campo_grande/campogrande/PayloadDigestNamesPinLaw" (44 : Nat) "0123456789abcdef").before a0 Z = true := G.1 _ (List.mem_of_getElem? (i := 17) rfl)
theorem w18 {Z : State} {a0 : Array Value} {zC : Int32} {fS : Value} {e0 : Addr} {e1 : Addr} {e2 : Addr} (G : Gl Z a0 zC fS e0 e1 e2) : (Jvm.Cond.initialized "java/lang/String").before a0 Z = true := G.1 _ (List.mem_of_getElem? (i := 18) rfl)
theorem w19 {Z : State} {a0 : Array Value} {zC : Int32} {fS : Value} {e0 : Addr} {e1 : Addr} {e2 : Addr} (G : Gl Z a0 zC fS e0 e1 e2) : (Jvm.Cond.instantiable "java/lang/String" (4 : Nat)).before a0 Z = true := G.1 _ (List.mem_of_getElem? (i := 19) rfl)
theorem w20 {Z : State} {a0 : Array Value} {zC : Int32} {fS : Value} {e0 : Addr} {e1 : Addr} {e2 : Addr} (G : Gl Z a0 zC fS e0 e1 e2) : (Jvm.Cond.arrayClass Jvm.ClassFile.FieldType.byte).before a0 Z = true := G.1 _ (List.mem_of_getElem? (i := 20) rfl)
theorem w21 {Z : State} {a0 : Array Value} {zC : Int32} {fS : Value} {e0 : Addr} {e1 : Addr} {e2 : Addr} (G : Gl Z a0 zC fS e0 e1 e2) : (Jvm.Cond.laysFinal "java/lang/String" "java/lang/String" "value" "[B").before a0 Z = true := G.1 _ (List.mem_of_getElem? (i := 21) rfl)
theorem w22 {Z : State} {a0 : Array Value} {zC : Int32} {fS : Value} {e0 : Addr} {e1 : Addr} {e2 : Addr} (G : Gl Z a0 zC fS e0 e1 e2) : (Jvm.Cond.laysFinal "java/lang/String" "java/lang/String" "coder" "B").before a0 Z = true := G.1 _ (List.mem_of_getElem? (i := 22) rfl)
theorem w23 {Z : State} {a0 : Array Value} {zC : Int32} {fS : Value} {e0 : Addr} {e1 : Addr} {e2 : Addr} (G : Gl Z a0 zC fS e0 e1 e2) : (Jvm.Cond.soleField "java/lang/String" "value").before a0 Z = true := G.1 _ (List.mem_of_getElem? (i := 23) rfl)
theorem w24 {Z : State} {a0 : Array Value} {zC : Int32} {fS : Value} {e0 : Addr} {e1 : Addr} {e2 : Addr} (G : Gl Z a0 zC fS e0 e1 e2) : (Jvm.Cond.soleField "java/lang/String" "coder").before a0 Z = true := G.1 _ (List.mem_of_getElem? (i := 24) rfl)
theorem w25 {Z : State} {a0 : Array Value} {zC : Int32} {fS : Value} {e0 : Addr} {e1 : Addr} {e2 : Addr} (G : Gl Z a0 zC fS e0 e1 e2) : (Jvm.Cond.methodLink "com/example/campo_grande/campogrande/PayloadDigestNamesPinLaw" (46 : Nat) ({ cls := "java/lang/String", name := "charAt", desc := "(I)C" } : Jvm.MethodName)).before a0 Z = true := G.1 _ (List.mem_of_getElem? (i := 25) rfl)
theorem w26 {Z : State} {a0 : Array Value} {zC : Int32} {fS : Value} {e0 : Addr} {e1 : Addr} {e2 : Addr} (G : Gl Z a0 zC fS e0 e1 e2) : (Jvm.Cond.declares ({ cls := "java/lang/String", name := "charAt", desc := "(I)C" } : Jvm.MethodName)).before a0 Z = true := G.1 _ (List.mem_of_getElem? (i := 26) rfl)
theorem w27 {Z : State} {a0 : Array Value} {zC : Int32} {fS : Value} {e0 : Addr} {e1 : Addr} {e2 : Addr} (G : Gl Z a0 zC fS e0 e1 e2) : (Jvm.Cond.instanceMethod ({ cls := "java/lang/String", name := "charAt", desc := "(I)C" } : Jvm.MethodName)).before a0 Z = true := G.1 _ (List.mem_of_getElem? (i := 27) rfl)
theorem w28 {Z : State} {a0 : Array Value} {zC : Int32} {fS : Value} {e0 : Addr} {e1 : Addr} {e2 : Addr} (G : Gl Z a0 zC fS e0 e1 e2) : (Jvm.Cond.selects "java/lang/String" ({ cls := "java/lang/String", name := "charAt", desc := "(I)C" } : Jvm.MethodName) ({ cls := "java/lang/String", name := "charAt", desc := "(I)C" } : Jvm.MethodName)).before a0 Z = true := G.1 _ (List.mem_of_getElem? (i := 28) rfl)
theorem w29 {Z : State} {a0 : Array Value} {zC : Int32} {fS : Value} {e0 : Addr} {e1 : Addr} {e2 : Addr} (G : Gl Z a0 zC fS e0 e1 e2) : (Jvm.Cond.code ({ cls := "java/lang/String", name := "charAt", desc := "(I)C" } : Jvm.MethodName) jdk_42_method_56_code (2 : Nat) (Option.some Jvm.ClassFile.FieldType.char)).before a0 Z = true := G.1 _ (List.mem_of_getElem? (i := 29) rfl)
theorem w30 {Z : State} {a0 : Array Value} {zC : Int32} {fS : Value} {e0 : Addr} {e1 : Addr} {e2 : Addr} (G : Gl Z a0 zC fS e0 e1 e2) : (Jvm.Cond.methodLink "java/lang/String" (492 : Nat) ({ cls := "java/lang/String", name := "isLatin1", desc := "()Z" } : Jvm.MethodName)).before a0 Z = true := G.1 _ (List.mem_of_getElem? (i := 30) rfl)
theorem w31 {Z : State} {a0 : Array Value} {zC : Int32} {fS : Value} {e0 : Addr} {e1 : Addr} {e2 : Addr} (G : Gl Z a0 zC fS e0 e1 e2) : (Jvm.Cond.declares ({ cls := "java/lang/String", name := "isLatin1", desc := "()Z" } : Jvm.MethodName)).before a0 Z = true := G.1 _ (List.mem_of_getElem? (i := 31) rfl)
theorem w32 {Z : State} {a0 : Array Value} {zC : Int32} {fS : Value} {e0 : Addr} {e1 : Addr} {e2 : Addr} (G : Gl Z a0 zC fS e0 e1 e2) : (Jvm.Cond.instanceMethod ({ cls := "java/lang/String", name := "isLatin1", desc := "()Z" } : Jvm.MethodName)).before a0 Z = true := G.1 _ (List.mem_of_getElem? (i := 32) rfl)
theorem w33 {Z : State} {a0 : Array Value} {zC : Int32} {fS : Value} {e0 : Addr} {e1 : Addr} {e2 : Addr} (G : Gl Z a0 zC fS e0 e1 e2) : (Jvm.Cond.selects "java/lang/String" ({ cls := "java/lang/String", name := "isLatin1", desc := "()Z" } : Jvm.MethodName) ({ cls := "java/lang/String", name := "isLatin1", desc := "()Z" } : Jvm.MethodName)).before a0 Z = true := G.1 _ (List.mem_of_getElem? (i := 33) rfl)
theorem w34 {Z : State} {a0 : Array Value} {zC : Int32} {fS : Value} {e0 : Addr} {e1 : Addr} {e2 : Addr} (G : Gl Z a0 zC fS e0 e1 e2) : (Jvm.Cond.code ({ cls := "java/lang/String", name := "isLatin1", desc := "()Z" } : Jvm.MethodName) jdk_42_method_154_code (1 : Nat) (Option.some Jvm.ClassFile.FieldType.boolean)).before a0 Z = true := G.1 _ (List.mem_of_getElem? (i := 34) rfl)
theorem w35 {Z : State} {a0 : Array Value} {zC : Int32} {fS : Value} {e0 : Addr} {e1 : Addr} {e2 : Addr} (G : Gl Z a0 zC fS e0 e1 e2) : (Jvm.Cond.fieldLink "java/lang/String" (38 : Nat) "java/lang/String" "COMPACT_STRINGS" "Z").before a0 Z = true := G.1 _ (List.mem_of_getElem? (i := 35) rfl)
theorem w36 {Z : State} {a0 : Array Value} {zC : Int32} {fS : Value} {e0 : Addr} {e1 : Addr} {e2 : Addr} (G : Gl Z a0 zC fS e0 e1 e2) : (Jvm.Cond.fieldLink "java/lang/String" (15 : Nat) "java/lang/String" "coder" "B").before a0 Z = true := G.1 _ (List.mem_of_getElem? (i := 36) rfl)
theorem w37 {Z : State} {a0 : Array Value} {zC : Int32} {fS : Value} {e0 : Addr} {e1 : Addr} {e2 : Addr} (G : Gl Z a0 zC fS e0 e1 e2) : (Jvm.Cond.fieldLink "java/lang/String" (9 : Nat) "java/lang/String" "value" "[B").before a0 Z = true := G.1 _ (List.mem_of_getElem? (i := 37) rfl)
theorem w38 {Z : State} {a0 : Array Value} {zC : Int32} {fS : Value} {e0 : Addr} {e1 : Addr} {e2 : Addr} (G : Gl Z a0 zC fS e0 e1 e2) : (Jvm.Cond.methodLink "java/lang/String" (495 : Nat) ({ cls := "java/lang/StringLatin1", name := "charAt", desc := "([BI)C" } : Jvm.MethodName)).before a0 Z = true := G.1 _ (List.mem_of_getElem? (i := 38) rfl)
theorem w39 {Z : State} {a0 : Array Value} {zC : Int32} {fS : Value} {e0 : Addr} {e1 : Addr} {e2 : Addr} (G : Gl Z a0 zC fS e0 e1 e2) : (Jvm.Cond.static ({ cls := "java/lang/StringLatin1", name := "charAt", desc := "([BI)C" } : Jvm.MethodName)).before a0 Z = true := G.1 _ (List.mem_of_getElem? (i := 39) rfl)
theorem w40 {Z : State} {a0 : Array Value} {zC : Int32} {fS : Value} {e0 : Addr} {e1 : Addr} {e2 : Addr} (G : Gl Z a0 zC fS e0 e1 e2) : (Jvm.Cond.initialized "java/lang/StringLatin1").before a0 Z = true := G.1 _ (List.mem_of_getElem? (i := 40) rfl)
theorem w41 {Z : State} {a0 : Array Value} {zC : Int32} {fS : Value} {e0 : Addr} {e1 : Addr} {e2 : Addr} (G : Gl Z a0 zC fS e0 e1 e2) : (Jvm.Cond.code ({ cls := "java/lang/StringLatin1", name := "charAt", desc := "([BI)C" } : Jvm.MethodName) jdk_43_method_2_code (2 : Nat) (Option.some Jvm.ClassFile.FieldType.char)).before a0 Z = true := G.1 _ (List.mem_of_getElem? (i := 41) rfl)
theorem w42 {Z : State} {a0 : Array Value} {zC : Int32} {fS : Value} {e0 : Addr} {e1 : Addr} {e2 : Addr} (G : Gl Z a0 zC fS e0 e1 e2) : (Jvm.Cond.methodLink "java/lang/StringLatin1" (9 : Nat) ({ cls := "java/lang/String", name := "checkIndex", desc := "(II)V" } : Jvm.MethodName)).before a0 Z = true := G.1 _ (List.mem_of_getElem? (i := 42) rfl)
theorem w43 {Z : State} {a0 : Array Value} {zC : Int32} {fS : Value} {e0 : Addr} {e1 : Addr} {e2 : Addr} (G : Gl Z a0 zC fS e0 e1 e2) : (Jvm.Cond.static ({ cls := "java/lang/String", name := "checkIndex", desc := "(II)V" } : Jvm.MethodName)).before a0 Z = true := G.1 _ (List.mem_of_getElem? (i := 43) rfl)
theorem w44 {Z : State} {a0 : Array Value} {zC : Int32} {fS : Value} {e0 : Addr} {e1 : Addr} {e2 : Addr} (G : Gl Z a0 zC fS e0 e1 e2) : (Jvm.Cond.code ({ cls := "java/lang/String", name := "checkIndex", desc := "(II)V" } : Jvm.MethodName) jdk_42_method_155_code (2 : Nat) (Option.none : Option Jvm.ClassFile.FieldType)).before a0 Z = true := G.1 _ (List.mem_of_getElem? (i := 44) rfl)
theorem w45 {Z : State} {a0 : Array Value} {zC : Int32} {fS : Value} {e0 : Addr} {e1 : Addr} {e2 : Addr} (G : Gl Z a0 zC fS e0 e1 e2) : (Jvm.Cond.fieldLink "java/lang/String" (1053 : Nat) "jdk/internal/util/Preconditions" "SIOOBE_FORMATTER" "Ljava/util/function/BiFunction;").before a0 Z = true := G.1 _ (List.mem_of_getElem? (i := 45) rfl)
theorem w46 {Z : State} {a0 : Array Value} {zC : Int32} {fS : Value} {e0 : Addr} {e1 : Addr} {e2 : Addr} (G : Gl Z a0 zC fS e0 e1 e2) : (Jvm.Cond.initialized "jdk/internal/util/Preconditions").before a0 Z = true := G.1 _ (List.mem_of_getElem? (i := 46) rfl)
theorem w47 {Z : State} {a0 : Array Value} {zC : Int32} {fS : Value} {e0 : Addr} {e1 : Addr} {e2 : Addr} (G : Gl Z a0 zC fS e0 e1 e2) : (Jvm.Cond.methodLink "java/lang/String" (1059 : Nat) ({ cls := "jdk/internal/util/Preconditions", name := "checkIndex", desc := "(IILjava/util/function/BiFunction;)I" } : Jvm.MethodName)).before a0 Z = true := G.1 _ (List.mem_of_getElem? (i := 47) rfl)
theorem w48 {Z : State} {a0 : Array Value} {zC : Int32} {fS : Value} {e0 : Addr} {e1 : Addr} {e2 : Addr} (G : Gl Z a0 zC fS e0 e1 e2) : (Jvm.Cond.static ({ cls := "jdk/internal/util/Preconditions", name := "checkIndex", desc := "(IILjava/util/function/BiFunction;)I" } : Jvm.MethodName)).before a0 Z = true := G.1 _ (List.mem_of_getElem? (i := 48) rfl)
theorem w49 {Z : State} {a0 : Array Value} {zC : Int32} {fS : Value} {e0 : Addr} {e1 : Addr} {e2 : Addr} (G : Gl Z a0 zC fS e0 e1 e2) : (Jvm.Cond.code ({ cls := "jdk/internal/util/Preconditions", name := "checkIndex", desc := "(IILjava/util/function/BiFunction;)I" } : Jvm.MethodName) jdk_41_method_11_code (3 : Nat) (Option.some Jvm.ClassFile.FieldType.int)).before a0 Z = true := G.1 _ (List.mem_of_getElem? (i := 49) rfl)
theorem w50 {Z : State} {a0 : Array Value} {zC : Int32} {fS : Value} {e0 : Addr} {e1 : Addr} {e2 : Addr} (G : Gl Z a0 zC fS e0 e1 e2) : (Jvm.Cond.classLink "com/example/campo_grande/campogrande/PayloadDigestNamesPinLaw" (47 : Nat) "java/lang/String").before a0 Z = true := G.1 _ (List.mem_of_getElem? (i := 50) rfl)
theorem w51 {Z : State} {a0 : Array Value} {zC : Int32} {fS : Value} {e0 : Addr} {e1 : Addr} {e2 : Addr} (G : Gl Z a0 zC fS e0 e1 e2) : (Jvm.Cond.arrayClass Jvm.ClassFile.FieldType.char).before a0 Z = true := G.1 _ (List.mem_of_getElem? (i := 51) rfl)
theorem w52 {Z : State} {a0 : Array Value} {zC : Int32} {fS : Value} {e0 : Addr} {e1 : Addr} {e2 : Addr} (G : Gl Z a0 zC fS e0 e1 e2) : (Jvm.Cond.methodLink "com/example/campo_grande/campogrande/PayloadDigestNamesPinLaw" (55 : Nat) ({ cls := "java/lang/String", name := "<init>", desc := "([C)V" } : Jvm.MethodName)).before a0 Z = true := G.1 _ (List.mem_of_getElem? (i := 52) rfl)
theorem w53 {Z : State} {a0 : Array Value} {zC : Int32} {fS : Value} {e0 : Addr} {e1 : Addr} {e2 : Addr} (G : Gl Z a0 zC fS e0 e1 e2) : (Jvm.Cond.instanceMethod ({ cls := "java/lang/String", name := "<init>", desc := "([C)V" } : Jvm.MethodName)).before a0 Z = true := G.1 _ (List.mem_of_getElem? (i := 53) rfl)
theorem w54 {Z : State} {a0 : Array Value} {zC : Int32} {fS : Value} {e0 : Addr} {e1 : Addr} {e2 : Addr} (G : Gl Z a0 zC fS e0 e1 e2) : (Jvm.Cond.code ({ cls := "java/lang/String", name := "<init>", desc := "([C)V" } : Jvm.MethodName) jdk_42_method_3_code (2 : Nat) (Option.none : Option Jvm.ClassFile.FieldType)).before a0 Z = true := G.1 _ (List.mem_of_getElem? (i := 54) rfl)
theorem w55 {Z : State} {a0 : Array Value} {zC : Int32} {fS : Value} {e0 : Addr} {e1 : Addr} {e2 : Addr} (G : Gl Z a0 zC fS e0 e1 e2) : (Jvm.Cond.methodLink "java/lang/String" (27 : Nat) ({ cls := "java/lang/String", name := "<init>", desc := "([CIILjava/lang/Void;)V" } : Jvm.MethodName)).before a0 Z = true := G.1 _ (List.mem_of_getElem? (i := 55) rfl)
theorem w56 {Z : State} {a0 : Array Value} {zC : Int32} {fS : Value} {e0 : Addr} {e1 : Addr} {e2 : Addr} (G : Gl Z a0 zC fS e0 e1 e2) : (Jvm.Cond.instanceMethod ({ cls := "java/lang/String", name := "<init>", desc := "([CIILjava/lang/Void;)V" } : Jvm.MethodName)).before a0 Z = true := G.1 _ (List.mem_of_getElem? (i := 56) rfl)
theorem w58 {Z : State} {a0 : Array Value} {zC : Int32} {fS : Value} {e0 : Addr} {e1 : Addr} {e2 : Addr} (G : Gl Z a0 zC fS e0 e1 e2) : (Jvm.Cond.code ({ cls := "java/lang/String", name := "<init>", desc := "([CIILjava/lang/Void;)V" } : Jvm.MethodName) jdk_42_method_149_code (6 : Nat) (Option.none : Option Jvm.ClassFile.FieldType)).before a0 Z = true := G.1 _ (List.mem_of_getElem? (i := 58) rfl)
theorem w59 {Z : State} {a0 : Array Value} {zC : Int32} {fS : Value} {e0 : Addr} {e1 : Addr} {e2 : Addr} (G : Gl Z a0 zC fS e0 e1 e2) : (Jvm.Cond.methodLink "java/lang/String" (1 : Nat) ({ cls := "java/lang/Object", name := "<init>", desc := "()V" } : Jvm.MethodName)).before a0 Z = true := G.1 _ (List.mem_of_getElem? (i := 59) rfl)
theorem w60 {Z : State} {a0 : Array Value} {zC : Int32} {fS : Value} {e0 : Addr} {e1 : Addr} {e2 : Addr} (G : Gl Z a0 zC fS e0 e1 e2) : (Jvm.Cond.instanceMethod ({ cls := "java/lang/Object", name := "<init>", desc := "()V" } : Jvm.MethodName)).before a0 Z = true := G.1 _ (List.mem_of_getElem? (i := 60) rfl)
theorem w61 {Z : State} {a0 : Array Value} {zC : Int32} {fS : Value} {e0 : Addr} {e1 : Addr} {e2 : Addr} (G : Gl Z a0 zC fS e0 e1 e2) : (Jvm.Cond.code ({ cls := "java/lang/Object", name := "<init>", desc := "()V" } : Jvm.MethodName) object_method_1_code (1 : Nat) (Option.none : Option Jvm.ClassFile.FieldType)).before a0 Z = true := G.1 _ (List.mem_of_getElem? (i := 61) rfl)
theorem w62 {Z : State} {a0 : Array Value} {zC : Int32} {fS : Value} {e0 : Addr} {e1 : Addr} {e2 : Addr} (G : Gl Z a0 zC fS e0 e1 e2) : (Jvm.Cond.methodLink "java/lang/String" (177 : Nat) ({ cls := "java/lang/StringUTF16", name := "compress", desc := "([CII)[B" } : Jvm.MethodName)).before a0 Z = true := G.1 _ (List.mem_of_getElem? (i := 62) rfl)
theorem w63 {Z : State} {a0 : Array Value} {zC : Int32} {fS : Value} {e0 : Addr} {e1 : Addr} {e2 : Addr} (G : Gl Z a0 zC fS e0 e1 e2) : (Jvm.Cond.static ({ cls := "java/lang/StringUTF16", name := "compress", desc := "([CII)[B" } : Jvm.MethodName)).before a0 Z = true := G.1 _ (List.mem_of_getElem? (i := 63) rfl)
theorem w64 {Z : State} {a0 : Array Value} {zC : Int32} {fS : Value} {e0 : Addr} {e1 : Addr} {e2 : Addr} (G : Gl Z a0 zC fS e0 e1 e2) : (Jvm.Cond.initialized "java/lang/StringUTF16").before a0 Z = true := G.1 _ (List.mem_of_getElem? (i := 64) rfl)
theorem w65 {Z : State} {a0 : Array Value} {zC : Int32} {fS : Value} {e0 : Addr} {e1 : Addr} {e2 : Addr} (G : Gl Z a0 zC fS e0 e1 e2) : (Jvm.Cond.code ({ cls := "java/lang/StringUTF16", name := "compress", desc := "([CII)[B" } : Jvm.MethodName) jdk_52_method_16_code (6 : Nat) (Option.some (Jvm.ClassFile.FieldType.array Jvm.ClassFile.FieldType.byte))).before a0 Z = true := G.1 _ (List.mem_of_getElem? (i := 65) rfl)
theorem w66 {Z : State} {a0 : Array Value} {zC : Int32} {fS : Value} {e0 : Addr} {e1 : Addr} {e2 : Addr} (G : Gl Z a0 zC fS e0 e1 e2) : (Jvm.Cond.methodLink "java/lang/StringUTF16" (115 : Nat) ({ cls := "java/lang/StringUTF16", name := "compress", desc := "([CI[BII)I" } : Jvm.MethodName)).before a0 Z = true := G.1 _ (List.mem_of_getElem? (i := 66) rfl)
theorem w67 {Z : State} {a0 : Array Value} {zC : Int32} {fS : Value} {e0 : Addr} {e1 : Addr} {e2 : Addr} (G : Gl Z a0 zC fS e0 e1 e2) : (Jvm.Cond.static ({ cls := "java/lang/StringUTF16", name := "compress", desc := "([CI[BII)I" } : Jvm.MethodName)).before a0 Z = true := G.1 _ (List.mem_of_getElem? (i := 67) rfl)
theorem w68 {Z : State} {a0 : Array Value} {zC : Int32} {fS : Value} {e0 : Addr} {e1 : Addr} {e2 : Addr} (G : Gl Z a0 zC fS e0 e1 e2) : (Jvm.Cond.code ({ cls := "java/lang/StringUTF16", name := "compress", desc := "([CI[BII)I" } : Jvm.MethodName) jdk_52_method_21_code (7 : Nat) (Option.some Jvm.ClassFile.FieldType.int)).before a0 Z = true := G.1 _ (List.mem_of_getElem? (i := 68) rfl)
theorem w69 {Z : State} {a0 : Array Value} {zC : Int32} {fS : Value} {e0 : Addr} {e1 : Addr} {e2 : Addr} (G : Gl Z a0 zC fS e0 e1 e2) : (Jvm.Cond.methodLink "java/lang/String" (47 : Nat) ({ cls := "java/lang/StringUTF16", name := "coderFromArrayLen", desc := "([BI)B" } : Jvm.MethodName)).before a0 Z = true := G.1 _ (List.mem_of_getElem? (i := 69) rfl)
theorem w70 {Z : State} {a0 : Array Value} {zC : Int32} {fS : Value} {e0 : Addr} {e1 : Addr} {e2 : Addr} (G : Gl Z a0 zC fS e0 e1 e2) : (Jvm.Cond.static ({ cls := "java/lang/StringUTF16", name := "coderFromArrayLen", desc := "([BI)B" } : Jvm.MethodName)).before a0 Z = true := G.1 _ (List.mem_of_getElem? (i := 70) rfl)
theorem w71 {Z : State} {a0 : Array Value} {zC : Int32} {fS : Value} {e0 : Addr} {e1 : Addr} {e2 : Addr} (G : Gl Z a0 zC fS e0 e1 e2) : (Jvm.Cond.code ({ cls := "java/lang/StringUTF16", name := "coderFromArrayLen", desc := "([BI)B" } : Jvm.MethodName) jdk_52_method_15_code (2 : Nat) (Option.some Jvm.ClassFile.FieldType.byte)).before a0 Z = true := G.1 _ (List.mem_of_getElem? (i := 71) rfl)
theorem w72 {Z : State} {a0 : Array Value} {zC : Int32} {fS : Value} {e0 : Addr} {e1 : Addr} {e2 : Addr} (G : Gl Z a0 zC fS e0 e1 e2) : (Jvm.Cond.methodLink "com/example/campo_grande/campogrande/PayloadDigestNamesPinLaw" (20 : Nat) ({ cls := "com/example/campo_grande/campogrande/ContentKey", name := "<init>", desc := "(ILcom/example/campo_grande/campogrande/SignatureAlgorithm;Ljava/lang/String;I)V" } : Jvm.MethodName)).before a0 Z = true := G.1 _ (List.mem_of_getElem? (i := 72) rfl)
theorem w73 {Z : State} {a0 : Array Value} {zC : Int32} {fS : Value} {e0 : Addr} {e1 : Addr} {e2 : Addr} (G : Gl Z a0 zC fS e0 e1 e2) : (Jvm.Cond.instanceMethod ({ cls := "com/example/campo_grande/campogrande/ContentKey", name := "<init>", desc := "(ILcom/example/campo_grande/campogrande/SignatureAlgorithm;Ljava/lang/String;I)V" } : Jvm.MethodName)).before a0 Z = true := G.1 _ (List.mem_of_getElem? (i := 73) rfl)
theorem w74 {Z : State} {a0 : Array Value} {zC : Int32} {fS : Value} {e0 : Addr} {e1 : Addr} {e2 : Addr} (G : Gl Z a0 zC fS e0 e1 e2) : (Jvm.Cond.code ({ cls := "com/example/campo_grande/campogrande/ContentKey", name := "<init>", desc := "(ILcom/example/campo_grande/campogrande/SignatureAlgorithm;Ljava/lang/String;I)V" } : Jvm.MethodName) prog_13_method_1_code (5 : Nat) (Option.none : Option Jvm.ClassFile.FieldType)).before a0 Z = true := G.1 _ (List.mem_of_getElem? (i := 74) rfl)
theorem w75 {Z : State} {a0 : Array Value} {zC : Int32} {fS : Value} {e0 : Addr} {e1 : Addr} {e2 : Addr} (G : Gl Z a0 zC fS e0 e1 e2) : (Jvm.Cond.methodLink "com/example/campo_grande/campogrande/ContentKey" (1 : Nat) ({ cls := "java/lang/Object", name := "<init>", desc := "()V" } : Jvm.MethodName)).before a0 Z = true := G.1 _ (List.mem_of_getElem? (i := 75) rfl)
theorem w76 {Z : State} {a0 : Array Value} {zC : Int32} {fS : Value} {e0 : Addr} {e1 : Addr} {e2 : Addr} (G : Gl Z a0 zC fS e0 e1 e2) : (Jvm.Cond.stringLink "com/example/campo_grande/campogrande/ContentKey" (7 : Nat) "algorithm").before a0 Z = true := G.1 _ (List.mem_of_getElem? (i := 76) rfl)
theorem w77 {Z : State} {a0 : Array Value} {zC : Int32} {fS : Value} {e0 : Addr} {e1 : Addr} {e2 : Addr} (G : Gl Z a0 zC fS e0 e1 e2) : (Jvm.Cond.methodLink "com/example/campo_grande/campogrande/ContentKey" (9 : Nat) ({ cls := "java/util/Objects", name := "requireNonNull", desc := "(Ljava/lang/Object;Ljava/lang/String;)Ljava/lang/Object;" } : Jvm.MethodName)).before a0 Z = true := G.1 _ (List.mem_of_getElem? (i := 77) rfl)
theorem w78 {Z : State} {a0 : Array Value} {zC : Int32} {fS : Value} {e0 : Addr} {e1 : Addr} {e2 : Addr} (G : Gl Z a0 zC fS e0 e1 e2) : (Jvm.Cond.static ({ cls := "java/util/Objects", name := "requireNonNull", desc := "(Ljava/lang/Object;Ljava/lang/String;)Ljava/lang/Object;" } : Jvm.MethodName)).before a0 Z = true := G.1 _ (List.mem_of_getElem? (i := 78) rfl)
theorem w79 {Z : State} {a0 : Array Value} {zC : Int32} {fS : Value} {e0 : Addr} {e1 : Addr} {e2 : Addr} (G : Gl Z a0 zC fS e0 e1 e2) : (Jvm.Cond.initialized "java/util/Objects").before a0 Z = true := G.1 _ (List.mem_of_getElem? (i := 79) rfl)
theorem w80 {Z : State} {a0 : Array Value} {zC : Int32} {fS : Value} {e0 : Addr} {e1 : Addr} {e2 : Addr} (G : Gl Z a0 zC fS e0 e1 e2) : (Jvm.Cond.code ({ cls := "java/util/Objects", name := "requireNonNull", desc := "(Ljava/lang/Object;Ljava/lang/String;)Ljava/lang/Object;" } : Jvm.MethodName) jdk_31_method_11_code (2 : Nat) (Option.some (Jvm.ClassFile.FieldType.object "java/lang/Object"))).before a0 Z = true := G.1 _ (List.mem_of_getElem? (i := 80) rfl)
theorem w81 {Z : State} {a0 : Array Value} {zC : Int32} {fS : Value} {e0 : Addr} {e1 : Addr} {e2 : Addr} (G : Gl Z a0 zC fS e0 e1 e2) : (Jvm.Cond.stringLink "com/example/campo_grande/campogrande/ContentKey" (15 : Nat) "signature").before a0 Z = true := G.1 _ (List.mem_of_getElem? (i := 81) rfl)
theorem w82 {Z : State} {a0 : Array Value} {zC : Int32} {fS : Value} {e0 : Addr} {e1 : Addr} {e2 : Addr} (G : Gl Z a0 zC fS e0 e1 e2) : (Jvm.Cond.methodLink "com/example/campo_grande/campogrande/ContentKey" (25 : Nat) ({ cls := "com/example/campo_grande/campogrande/SignatureAlgorithm", name := "isSignature", desc := "(Ljava/lang/String;)Z" } : Jvm.MethodName)).before a0 Z = true := G.1 _ (List.mem_of_getElem? (i := 82) rfl)
theorem w83 {Z : State} {a0 : Array Value} {zC : Int32} {fS : Value} {e0 : Addr} {e1 : Addr} {e2 : Addr} (G : Gl Z a0 zC fS e0 e1 e2) : (Jvm.Cond.declares ({ cls := "com/example/campo_grande/campogrande/SignatureAlgorithm", name := "isSignature", desc := "(Ljava/lang/String;)Z" } : Jvm.MethodName)).before a0 Z = true := G.1 _ (List.mem_of_getElem? (i := 83) rfl)
theorem w84 {Z : State} {a0 : Array Value} {zC : Int32} {fS : Value} {e0 : Addr} {e1 : Addr} {e2 : Addr} (G : Gl Z a0 zC fS e0 e1 e2) : (Jvm.Cond.instanceMethod ({ cls := "com/example/campo_grande/campogrande/SignatureAlgorithm", name := "isSignature", desc := "(Ljava/lang/String;)Z" } : Jvm.MethodName)).before a0 Z = true := G.1 _ (List.mem_of_getElem? (i := 84) rfl)
theorem w85 {Z : State} {a0 : Array Value} {zC : Int32} {fS : Value} {e0 : Addr} {e1 : Addr} {e2 : Addr} (G : Gl Z a0 zC fS e0 e1 e2) : (Jvm.Cond.selects "com/example/campo_grande/campogrande/SignatureAlgorithm" ({ cls := "com/example/campo_grande/campogrande/SignatureAlgorithm", name := "isSignature", desc := "(Ljava/lang/String;)Z" } : Jvm.MethodName) ({ cls := "com/example/campo_grande/campogrande/SignatureAlgorithm", name := "isSignature", desc := "(Ljava/lang/String;)Z" } : Jvm.MethodName)).before a0 Z = true := G.1 _ (List.mem_of_getElem? (i := 85) rfl)
theorem w86 {Z : State} {a0 : Array Value} {zC : Int32} {fS : Value} {e0 : Addr} {e1 : Addr} {e2 : Addr} (G : Gl Z a0 zC fS e0 e1 e2) : (Jvm.Cond.code ({ cls := "com/example/campo_grande/campogrande/SignatureAlgorithm", name := "isSignature", desc := "(Ljava/lang/String;)Z" } : Jvm.MethodName) prog_25_method_6_code (4 : Nat) (Option.some Jvm.ClassFile.FieldType.boolean)).before a0 Z = true := G.1 _ (List.mem_of_getElem? (i := 86) rfl)
theorem w87 {Z : State} {a0 : Array Value} {zC : Int32} {fS : Value} {e0 : Addr} {e1 : Addr} {e2 : Addr} (G : Gl Z a0 zC fS e0 e1 e2) : (Jvm.Cond.methodLink "com/example/campo_grande/campogrande/SignatureAlgorithm" (60 : Nat) ({ cls := "java/lang/String", name := "length", desc := "()I" } : Jvm.MethodName)).before a0 Z = true := G.1 _ (List.mem_of_getElem? (i := 87) rfl)
theorem w88 {Z : State} {a0 : Array Value} {zC : Int32} {fS : Value} {e0 : Addr} {e1 : Addr} {e2 : Addr} (G : Gl Z a0 zC fS e0 e1 e2) : (Jvm.Cond.declares ({ cls := "java/lang/String", name := "length", desc := "()I" } : Jvm.MethodName)).before a0 Z = true := G.1 _ (List.mem_of_getElem? (i := 88) rfl)
theorem w89 {Z : State} {a0 : Array Value} {zC : Int32} {fS : Value} {e0 : Addr} {e1 : Addr} {e2 : Addr} (G : Gl Z a0 zC fS e0 e1 e2) : (Jvm.Cond.instanceMethod ({ cls := "java/lang/String", name := "length", desc := "()I" } : Jvm.MethodName)).before a0 Z = true := G.1 _ (List.mem_of_getElem? (i := 89) rfl)
theorem w90 {Z : State} {a0 : Array Value} {zC : Int32} {fS : Value} {e0 : Addr} {e1 : Addr} {e2 : Addr} (G : Gl Z a0 zC fS e0 e1 e2) : (Jvm.Cond.selects "java/lang/String" ({ cls := "java/lang/String", name := "length", desc := "()I" } : Jvm.MethodName) ({ cls := "java/lang/String", name := "length", desc := "()I" } : Jvm.MethodName)).before a0 Z = true := G.1 _ (List.mem_of_getElem? (i := 90) rfl)
theorem w91 {Z : State} {a0 : Array Value} {zC : Int32} {fS : Value} {e0 : Addr} {e1 : Addr} {e2 : Addr} (G : Gl Z a0 zC fS e0 e1 e2) : (Jvm.Cond.code ({ cls := "java/lang/String", name := "length", desc := "()I" } : Jvm.MethodName) jdk_42_method_54_code (1 : Nat) (Option.some Jvm.ClassFile.FieldType.int)).before a0 Z = true := G.1 _ (List.mem_of_getElem? (i := 91) rfl)
theorem w92 {Z : State} {a0 : Array Value} {zC : Int32} {fS : Value} {e0 : Addr} {e1 : Addr} {e2 : Addr} (G : Gl Z a0 zC fS e0 e1 e2) : (Jvm.Cond.methodLink "java/lang/String" (335 : Nat) ({ cls := "java/lang/String", name := "coder", desc := "()B" } : Jvm.MethodName)).before a0 Z = true := G.1 _ (List.mem_of_getElem? (i := 92) rfl)
theorem w93 {Z : State} {a0 : Array Value} {zC : Int32} {fS : Value} {e0 : Addr} {e1 : Addr} {e2 : Addr} (G : Gl Z a0 zC fS e0 e1 e2) : (Jvm.Cond.declares ({ cls := "java/lang/String", name := "coder", desc := "()B" } : Jvm.MethodName)).before a0 Z = true := G.1 _ (List.mem_of_getElem? (i := 93) rfl)
theorem w94 {Z : State} {a0 : Array Value} {zC : Int32} {fS : Value} {e0 : Addr} {e1 : Addr} {e2 : Addr} (G : Gl Z a0 zC fS e0 e1 e2) : (Jvm.Cond.instanceMethod ({ cls := "java/lang/String", name := "coder", desc := "()B" } : Jvm.MethodName)).before a0 Z = true := G.1 _ (List.mem_of_getElem? (i := 94) rfl)
theorem w95 {Z : State} {a0 : Array Value} {zC : Int32} {fS : Value} {e0 : Addr} {e1 : Addr} {e2 : Addr} (G : Gl Z a0 zC fS e0 e1 e2) : (Jvm.Cond.selects "java/lang/String" ({ cls := "java/lang/String", name := "coder", desc := "()B" } : Jvm.MethodName) ({ cls := "java/lang/String", name := "coder", desc := "()B" } : Jvm.MethodName)).before a0 Z = true := G.1 _ (List.mem_of_getElem? (i := 95) rfl)
theorem w96 {Z : State} {a0 : Array Value} {zC : Int32} {fS : Value} {e0 : Addr} {e1 : Addr} {e2 : Addr} (G : Gl Z a0 zC fS e0 e1 e2) : (Jvm.Cond.code ({ cls := "java/lang/String", name := "coder", desc := "()B" } : Jvm.MethodName) jdk_42_method_152_code (1 : Nat) (Option.some Jvm.ClassFile.FieldType.byte)).before a0 Z = true := G.1 _ (List.mem_of_getElem? (i := 96) rfl)
theorem w97 {Z : State} {a0 : Array Value} {zC : Int32} {fS : Value} {e0 : Addr} {e1 : Addr} {e2 : Addr} (G : Gl Z a0 zC fS e0 e1 e2) : (Jvm.Cond.fieldLink "com/example/campo_grande/campogrande/SignatureAlgorithm" (39 : Nat) "com/example/campo_grande/campogrande/SignatureAlgorithm" "digestLength" "I").before a0 Z = true := G.1 _ (List.mem_of_getElem? (i := 97) rfl)
theorem w99 {Z : State} {a0 : Array Value} {zC : Int32} {fS : Value} {e0 : Addr} {e1 : Addr} {e2 : Addr} (G : Gl Z a0 zC fS e0 e1 e2) : (Jvm.Cond.methodLink "com/example/campo_grande/campogrande/SignatureAlgorithm" (64 : Nat) ({ cls := "java/lang/String", name := "charAt", desc := "(I)C" } : Jvm.MethodName)).before a0 Z = true := G.1 _ (List.mem_of_getElem? (i := 99) rfl)
theorem w100 {Z : State} {a0 : Array Value} {zC : Int32} {fS : Value} {e0 : Addr} {e1 : Addr} {e2 : Addr} (G : Gl Z a0 zC fS e0 e1 e2) : (Jvm.Cond.fieldLink "com/example/campo_grande/campogrande/ContentKey" (47 : Nat) "com/example/campo_grande/campogrande/ContentKey" "volume" "I").before a0 Z = true := G.1 _ (List.mem_of_getElem? (i := 100) rfl)
theorem w101 {Z : State} {a0 : Array Value} {zC : Int32} {fS : Value} {e0 : Addr} {e1 : Addr} {e2 : Addr} (G : Gl Z a0 zC fS e0 e1 e2) : (Jvm.Cond.laysFinal "com/example/campo_grande/campogrande/ContentKey" "com/example/campo_grande/campogrande/ContentKey" "volume" "I").before a0 Z = true := G.1 _ (List.mem_of_getElem? (i := 101) rfl)
theorem w102 {Z : State} {a0 : Array Value} {zC : Int32} {fS : Value} {e0 : Addr} {e1 : Addr} {e2 : Addr} (G : Gl Z a0 zC fS e0 e1 e2) : (Jvm.Cond.fieldLink "com/example/campo_grande/campogrande/ContentKey" (51 : Nat) "com/example/campo_grande/campogrande/ContentKey" "algorithm" "Lcom/example/campo_grande/campogrande/SignatureAlgorithm;").before a0 Z = true := G.1 _ (List.mem_of_getElem? (i := 102) rfl)
theorem w103 {Z : State} {a0 : Array Value} {zC : Int32} {fS : Value} {e0 : Addr} {e1 : Addr} {e2 : Addr} (G : Gl Z a0 zC fS e0 e1 e2) : (Jvm.Cond.laysFinal "com/example/campo_grande/campogrande/ContentKey" "com/example/campo_grande/campogrande/ContentKey" "algorithm" "Lcom/example/campo_grande/campogrande/SignatureAlgorithm;").before a0 Z = true := G.1 _ (List.mem_of_getElem? (i := 103) rfl)
theorem w104 {Z : State} {a0 : Array Value} {zC : Int32} {fS : Value} {e0 : Addr} {e1 : Addr} {e2 : Addr} (G : Gl Z a0 zC fS e0 e1 e2) : (Jvm.Cond.fieldLink "com/example/campo_grande/campogrande/ContentKey" (54 : Nat) "com/example/campo_grande/campogrande/ContentKey" "signature" "Ljava/lang/String;").before a0 Z = true := G.1 _ (List.mem_of_getElem? (i := 104) rfl)
theorem w105 {Z : State} {a0 : Array Value} {zC : Int32} {fS : Value} {e0 : Addr} {e1 : Addr} {e2 : Addr} (G : Gl Z a0 zC fS e0 e1 e2) : (Jvm.Cond.laysFinal "com/example/campo_grande/campogrande/ContentKey" "com/example/campo_grande/campogrande/ContentKey" "signature" "Ljava/lang/String;").before a0 Z = true := G.1 _ (List.mem_of_getElem? (i := 105) rfl)
theorem w106 {Z : State} {a0 : Array Value} {zC : Int32} {fS : Value} {e0 : Addr} {e1 : Addr} {e2 : Addr} (G : Gl Z a0 zC fS e0 e1 e2) : (Jvm.Cond.fieldLink "com/example/campo_grande/campogrande/ContentKey" (57 : Nat) "com/example/campo_grande/campogrande/ContentKey" "overflow" "I").before a0 Z = true := G.1 _ (List.mem_of_getElem? (i := 106) rfl)
theorem w107 {Z : State} {a0 : Array Value} {zC : Int32} {fS : Value} {e0 : Addr} {e1 : Addr} {e2 : Addr} (G : Gl Z a0 zC fS e0 e1 e2) : (Jvm.Cond.laysFinal "com/example/campo_grande/campogrande/ContentKey" "com/example/campo_grande/campogrande/ContentKey" "overflow" "I").before a0 Z = true := G.1 _ (List.mem_of_getElem? (i := 107) rfl)
theorem w108 {Z : State} {a0 : Array Value} {zC : Int32} {fS : Value} {e0 : Addr} {e1 : Addr} {e2 : Addr} (G : Gl Z a0 zC fS e0 e1 e2) : (Jvm.Cond.classLink "com/example/campo_grande/campogrande/PayloadDigestNamesPinLaw" (23 : Nat) "com/example/campo_grande/campogrande/PayloadDigest").before a0 Z = true := G.1 _ (List.mem_of_getElem? (i := 108) rfl)
theorem w109 {Z : State} {a0 : Array Value} {zC : Int32} {fS : Value} {e0 : Addr} {e1 : Addr} {e2 : Addr} (G : Gl Z a0 zC fS e0 e1 e2) : (Jvm.Cond.instantiable "com/example/campo_grande/campogrande/PayloadDigest" (2 : Nat)).before a0 Z = true := G.1 _ (List.mem_of_getElem? (i := 109) rfl)
theorem w110 {Z : State} {a0 : Array Value} {zC : Int32} {fS : Value} {e0 : Addr} {e1 : Addr} {e2 : Addr} (G : Gl Z a0 zC fS e0 e1 e2) : (Jvm.Cond.initialized "com/example/campo_grande/campogrande/PayloadDigest").before a0 Z = true := G.1 _ (List.mem_of_getElem? (i := 110) rfl)
theorem w111 {Z : State} {a0 : Array Value} {zC : Int32} {fS : Value} {e0 : Addr} {e1 : Addr} {e2 : Addr} (G : Gl Z a0 zC fS e0 e1 e2) : (Jvm.Cond.methodLink "com/example/campo_grande/campogrande/PayloadDigestNamesPinLaw" (25 : Nat) ({ cls := "com/example/campo_grande/campogrande/PayloadDigest", name := "<init>", desc := "(Lcom/example/campo_grande/campogrande/SignatureAlgorithm;Ljava/lang/String;)V" } : Jvm.MethodName)).before a0 Z = true := G.1 _ (List.mem_of_getElem? (i := 111) rfl)
theorem w112 {Z : State} {a0 : Array Value} {zC : Int32} {fS : Value} {e0 : Addr} {e1 : Addr} {e2 : Addr} (G : Gl Z a0 zC fS e0 e1 e2) : (Jvm.Cond.instanceMethod ({ cls := "com/example/campo_grande/campogrande/PayloadDigest", name := "<init>", desc := "(Lcom/example/campo_grande/campogrande/SignatureAlgorithm;Ljava/lang/String;)V" } : Jvm.MethodName)).before a0 Z = true := G.1 _ (List.mem_of_getElem? (i := 112) rfl)
theorem w113 {Z : State} {a0 : Array Value} {zC : Int32} {fS : Value} {e0 : Addr} {e1 : Addr} {e2 : Addr} (G : Gl Z a0 zC fS e0 e1 e2) : (Jvm.Cond.code ({ cls := "com/example/campo_grande/campogrande/PayloadDigest", name := "<init>", desc := "(Lcom/example/campo_grande/campogrande/SignatureAlgorithm;Ljava/lang/String;)V" } : Jvm.MethodName) prog_21_method_1_code (3 : Nat) (Option.none : Option Jvm.ClassFile.FieldType)).before a0 Z = true := G.1 _ (List.mem_of_getElem? (i := 113) rfl)
theorem w114 {Z : State} {a0 : Array Value} {zC : Int32} {fS : Value} {e0 : Addr} {e1 : Addr} {e2 : Addr} (G : Gl Z a0 zC fS e0 e1 e2) : (Jvm.Cond.methodLink "com/example/campo_grande/campogrande/PayloadDigest" (1 : Nat) ({ cls := "java/lang/Object", name := "<init>", desc := "()V" } : Jvm.MethodName)).before a0 Z = true := G.1 _ (List.mem_of_getElem? (i := 114) rfl)
theorem w115 {Z : State} {a0 : Array Value} {zC : Int32} {fS : Value} {e0 : Addr} {e1 : Addr} {e2 : Addr} (G : Gl Z a0 zC fS e0 e1 e2) : (Jvm.Cond.methodLink "com/example/campo_grande/campogrande/PayloadDigest" (7 : Nat) ({ cls := "com/example/campo_grande/campogrande/SignatureAlgorithm", name := "isSignature", desc := "(Ljava/lang/String;)Z" } : Jvm.MethodName)).before a0 Z = true := G.1 _ (List.mem_of_getElem? (i := 115) rfl)
theorem w116 {Z : State} {a0 : Array Value} {zC : Int32} {fS : Value} {e0 : Addr} {e1 : Addr} {e2 : Addr} (G : Gl Z a0 zC fS e0 e1 e2) : (Jvm.Cond.fieldLink "com/example/campo_grande/campogrande/PayloadDigest" (28 : Nat) "com/example/campo_grande/campogrande/PayloadDigest" "algorithm" "Lcom/example/campo_grande/campogrande/SignatureAlgorithm;").before a0 Z = true := G.1 _ (List.mem_of_getElem? (i := 116) rfl)
theorem w117 {Z : State} {a0 : Array Value} {zC : Int32} {fS : Value} {e0 : Addr} {e1 : Addr} {e2 : Addr} (G : Gl Z a0 zC fS e0 e1 e2) : (Jvm.Cond.laysFinal "com/example/campo_grande/campogrande/PayloadDigest" "com/example/campo_grande/campogrande/PayloadDigest" "algorithm" "Lcom/example/campo_grande/campogrande/SignatureAlgorithm;").before a0 Z = true := G.1 _ (List.mem_of_getElem? (i := 117) rfl)
theorem w118 {Z : State} {a0 : Array Value} {zC : Int32} {fS : Value} {e0 : Addr} {e1 : Addr} {e2 : Addr} (G : Gl Z a0 zC fS e0 e1 e2) : (Jvm.Cond.fieldLink "com/example/campo_grande/campogrande/PayloadDigest" (34 : Nat) "com/example/campo_grande/campogrande/PayloadDigest" "signature" "Ljava/lang/String;").before a0 Z = true := G.1 _ (List.mem_of_getElem? (i := 118) rfl)
theorem w119 {Z : State} {a0 : Array Value} {zC : Int32} {fS : Value} {e0 : Addr} {e1 : Addr} {e2 : Addr} (G : Gl Z a0 zC fS e0 e1 e2) : (Jvm.Cond.laysFinal "com/example/campo_grande/campogrande/PayloadDigest" "com/example/campo_grande/campogrande/PayloadDigest" "signature" "Ljava/lang/String;").before a0 Z = true := G.1 _ (List.mem_of_getElem? (i := 119) rfl)
theorem w120 {Z : State} {a0 : Array Value} {zC : Int32} {fS : Value} {e0 : Addr} {e1 : Addr} {e2 : Addr} (G : Gl Z a0 zC fS e0 e1 e2) : (Jvm.Cond.methodLink "com/example/campo_grande/campogrande/PayloadDigestNamesPinLaw" (28 : Nat) ({ cls := "com/example/campo_grande/campogrande/PayloadDigest", name := "names", desc := "(Lcom/example/campo_grande/campogrande/ContentKey;)Z" } : Jvm.MethodName)).before a0 Z = true := G.1 _ (List.mem_of_getElem? (i := 120) rfl)
theorem w121 {Z : State} {a0 : Array Value} {zC : Int32} {fS : Value} {e0 : Addr} {e1 : Addr} {e2 : Addr} (G : Gl Z a0 zC fS e0 e1 e2) : (Jvm.Cond.declares ({ cls := "com/example/campo_grande/campogrande/PayloadDigest", name := "names", desc := "(Lcom/example/campo_grande/campogrande/ContentKey;)Z" } : Jvm.MethodName)).before a0 Z = true := G.1 _ (List.mem_of_getElem? (i := 121) rfl)
theorem w122 {Z : State} {a0 : Array Value} {zC : Int32} {fS : Value} {e0 : Addr} {e1 : Addr} {e2 : Addr} (G : Gl Z a0 zC fS e0 e1 e2) : (Jvm.Cond.instanceMethod ({ cls := "com/example/campo_grande/campogrande/PayloadDigest", name := "names", desc := "(Lcom/example/campo_grande/campogrande/ContentKey;)Z" } : Jvm.MethodName)).before a0 Z = true := G.1 _ (List.mem_of_getElem? (i := 122) rfl)
theorem w123 {Z : State} {a0 : Array Value} {zC : Int32} {fS : Value} {e0 : Addr} {e1 : Addr} {e2 : Addr} (G : Gl Z a0 zC fS e0 e1 e2) : (Jvm.Cond.selects "com/example/campo_grande/campogrande/PayloadDigest" ({ cls := "com/example/campo_grande/campogrande/PayloadDigest", name := "names", desc := "(Lcom/example/campo_grande/campogrande/ContentKey;)Z" } : Jvm.MethodName) ({ cls := "com/example/campo_grande/campogrande/PayloadDigest", name := "names", desc := "(Lcom/example/campo_grande/campogrande/ContentKey;)Z" } : Jvm.MethodName)).before a0 Z = true := G.1 _ (List.mem_of_getElem? (i := 123) rfl)
theorem w124 {Z : State} {a0 : Array Value} {zC : Int32} {fS : Value} {e0 : Addr} {e1 : Addr} {e2 : Addr} (G : Gl Z a0 zC fS e0 e1 e2) : (Jvm.Cond.code ({ cls := "com/example/campo_grande/campogrande/PayloadDigest", name := "names", desc := "(Lcom/example/campo_grande/campogrande/ContentKey;)Z" } : Jvm.MethodName) prog_21_method_4_code (2 : Nat) (Option.some Jvm.ClassFile.FieldType.boolean)).before a0 Z = true := G.1 _ (List.mem_of_getElem? (i := 124) rfl)
theorem w125 {Z : State} {a0 : Array Value} {zC : Int32} {fS : Value} {e0 : Addr} {e1 : Addr} {e2 : Addr} (G : Gl Z a0 zC fS e0 e1 e2) : (Jvm.Cond.methodLink "com/example/campo_grande/campogrande/PayloadDigest" (98 : Nat) ({ cls := "com/example/campo_grande/campogrande/ContentKey", name := "getAlgorithm", desc := "()Lcom/example/campo_grande/campogrande/SignatureAlgorithm;" } : Jvm.MethodName)).before a0 Z = true := G.1 _ (List.mem_of_getElem? (i := 125) rfl)
theorem w126 {Z : State} {a0 : Array Value} {zC : Int32} {fS : Value} {e0 : Addr} {e1 : Addr} {e2 : Addr} (G : Gl Z a0 zC fS e0 e1 e2) : (Jvm.Cond.declares ({ cls := "com/example/campo_grande/campogrande/ContentKey", name := "getAlgorithm", desc := "()Lcom/example/campo_grande/campogrande/SignatureAlgorithm;" } : Jvm.MethodName)).before a0 Z = true := G.1 _ (List.mem_of_getElem? (i := 126) rfl)
theorem w127 {Z : State} {a0 : Array Value} {zC : Int32} {fS : Value} {e0 : Addr} {e1 : Addr} {e2 : Addr} (G : Gl Z a0 zC fS e0 e1 e2) : (Jvm.Cond.instanceMethod ({ cls := "com/example/campo_grande/campogrande/ContentKey", name := "getAlgorithm", desc := "()Lcom/example/campo_grande/campogrande/SignatureAlgorithm;" } : Jvm.MethodName)).before a0 Z = true := G.1 _ (List.mem_of_getElem? (i := 127) rfl)
theorem w128 {Z : State} {a0 : Array Value} {zC : Int32} {fS : Value} {e0 : Addr} {e1 : Addr} {e2 : Addr} (G : Gl Z a0 zC fS e0 e1 e2) : (Jvm.Cond.selects "com/example/campo_grande/campogrande/ContentKey" ({ cls := "com/example/campo_grande/campogrande/ContentKey", name := "getAlgorithm", desc := "()Lcom/example/campo_grande/campogrande/SignatureAlgorithm;" } : Jvm.MethodName) ({ cls := "com/example/campo_grande/campogrande/ContentKey", name := "getAlgorithm", desc := "()Lcom/example/campo_grande/campogrande/SignatureAlgorithm;" } : Jvm.MethodName)).before a0 Z = true := G.1 _ (List.mem_of_getElem? (i := 128) rfl)
theorem w129 {Z : State} {a0 : Array Value} {zC : Int32} {fS : Value} {e0 : Addr} {e1 : Addr} {e2 : Addr} (G : Gl Z a0 zC fS e0 e1 e2) : (Jvm.Cond.code ({ cls := "com/example/campo_grande/campogrande/ContentKey", name := "getAlgorithm", desc := "()Lcom/example/campo_grande/campogrande/SignatureAlgorithm;" } : Jvm.MethodName) prog_13_method_6_code (1 : Nat) (Option.some (Jvm.ClassFile.FieldType.object "com/example/campo_grande/campogrande/SignatureAlgorithm"))).before a0 Z = true := G.1 _ (List.mem_of_getElem? (i := 129) rfl)
theorem w130 {Z : State} {a0 : Array Value} {zC : Int32} {fS : Value} {e0 : Addr} {e1 : Addr} {e2 : Addr} (G : Gl Z a0 zC fS e0 e1 e2) : (Jvm.Cond.methodLink "com/example/campo_grande/campogrande/PayloadDigest" (104 : Nat) ({ cls := "com/example/campo_grande/campogrande/ContentKey", name := "getSignature", desc := "()Ljava/lang/String;" } : Jvm.MethodName)).before a0 Z = true := G.1 _ (List.mem_of_getElem? (i := 130) rfl)
theorem w131 {Z : State} {a0 : Array Value} {zC : Int32} {fS : Value} {e0 : Addr} {e1 : Addr} {e2 : Addr} (G : Gl Z a0 zC fS e0 e1 e2) : (Jvm.Cond.declares ({ cls := "com/example/campo_grande/campogrande/ContentKey", name := "getSignature", desc := "()Ljava/lang/String;" } : Jvm.MethodName)).before a0 Z = true := G.1 _ (List.mem_of_getElem? (i := 131) rfl)
theorem w132 {Z : State} {a0 : Array Value} {zC : Int32} {fS : Value} {e0 : Addr} {e1 : Addr} {e2 : Addr} (G : Gl Z a0 zC fS e0 e1 e2) : (Jvm.Cond.instanceMethod ({ cls := "com/example/campo_grande/campogrande/ContentKey", name := "getSignature", desc := "()Ljava/lang/String;" } : Jvm.MethodName)).before a0 Z = true := G.1 _ (List.mem_of_getElem? (i := 132) rfl)
theorem w133 {Z : State} {a0 : Array Value} {zC : Int32} {fS : Value} {e0 : Addr} {e1 : Addr} {e2 : Addr} (G : Gl Z a0 zC fS e0 e1 e2) : (Jvm.Cond.selects "com/example/campo_grande/campogrande/ContentKey" ({ cls := "com/example/campo_grande/campogrande/ContentKey", name := "getSignature", desc := "()Ljava/lang/String;" } : Jvm.MethodName) ({ cls := "com/example/campo_grande/campogrande/ContentKey", name := "getSignature", desc := "()Ljava/lang/String;" } : Jvm.MethodName)).before a0 Z = true := G.1 _ (List.mem_of_getElem? (i := 133) rfl)
theorem w134 {Z : State} {a0 : Array Value} {zC : Int32} {fS : Value} {e0 : Addr} {e1 : Addr} {e2 : Addr} (G : Gl Z a0 zC fS e0 e1 e2) : (Jvm.Cond.code ({ cls := "com/example/campo_grande/campogrande/ContentKey", name := "getSignature", desc := "()Ljava/lang/String;" } : Jvm.MethodName) prog_13_method_7_code (1 : Nat) (Option.some (Jvm.ClassFile.FieldType.object "java/lang/String"))).before a0 Z = true := G.1 _ (List.mem_of_getElem? (i := 134) rfl)
theorem w135 {Z : State} {a0 : Array Value} {zC : Int32} {fS : Value} {e0 : Addr} {e1 : Addr} {e2 : Addr} (G : Gl Z a0 zC fS e0 e1 e2) : (Jvm.Cond.methodLink "com/example/campo_grande/campogrande/PayloadDigest" (107 : Nat) ({ cls := "java/lang/String", name := "equals", desc := "(Ljava/lang/Object;)Z" } : Jvm.MethodName)).before a0 Z = true := G.1 _ (List.mem_of_getElem? (i := 135) rfl)
theorem w136 {Z : State} {a0 : Array Value} {zC : Int32} {fS : Value} {e0 : Addr} {e1 : Addr} {e2 : Addr} (G : Gl Z a0 zC fS e0 e1 e2) : (Jvm.Cond.declares ({ cls := "java/lang/String", name := "equals", desc := "(Ljava/lang/Object;)Z" } : Jvm.MethodName)).before a0 Z = true := G.1 _ (List.mem_of_getElem? (i := 136) rfl)
theorem w137 {Z : State} {a0 : Array Value} {zC : Int32} {fS : Value} {e0 : Addr} {e1 : Addr} {e2 : Addr} (G : Gl Z a0 zC fS e0 e1 e2) : (Jvm.Cond.instanceMethod ({ cls := "java/lang/String", name := "equals", desc := "(Ljava/lang/Object;)Z" } : Jvm.MethodName)).before a0 Z = true := G.1 _ (List.mem_of_getElem? (i := 137) rfl)
theorem w138 {Z : State} {a0 : Array Value} {zC : Int32} {fS : Value} {e0 : Addr} {e1 : Addr} {e2 : Addr} (G : Gl Z a0 zC fS e0 e1 e2) : (Jvm.Cond.selects "java/lang/String" ({ cls := "java/lang/String", name := "equals", desc := "(Ljava/lang/Object;)Z" } : Jvm.MethodName) ({ cls := "java/lang/String", name := "equals", desc := "(Ljava/lang/Object;)Z" } : Jvm.MethodName)).before a0 Z = true := G.1 _ (List.mem_of_getElem? (i := 138) rfl)
theorem w139 {Z : State} {a0 : Array Value} {zC : Int32} {fS : Value} {e0 : Addr} {e1 : Addr} {e2 : Addr} (G : Gl Z a0 zC fS e0 e1 e2) : (Jvm.Cond.code ({ cls := "java/lang/String", name := "equals", desc := "(Ljava/lang/Object;)Z" } : Jvm.MethodName) jdk_42_method_66_code (3 : Nat) (Option.some Jvm.ClassFile.FieldType.boolean)).before a0 Z = true := G.1 _ (List.mem_of_getElem? (i := 139) rfl)
theorem w140 {Z : State} {a0 : Array Value} {zC : Int32} {fS : Value} {e0 : Addr} {e1 : Addr} {e2 : Addr} (G : Gl Z a0 zC fS e0 e1 e2) : (Jvm.Cond.classLink "java/lang/String" (10 : Nat) "java/lang/String").before a0 Z = true := G.1 _ (List.mem_of_getElem? (i := 140) rfl)
theorem w141 {Z : State} {a0 : Array Value} {zC : Int32} {fS : Value} {e0 : Addr} {e1 : Addr} {e2 : Addr} (G : Gl Z a0 zC fS e0 e1 e2) : (Jvm.Cond.methodLink "java/lang/String" (541 : Nat) ({ cls := "java/lang/StringLatin1", name := "equals", desc := "([B[B)Z" } : Jvm.MethodName)).before a0 Z = true := G.1 _ (List.mem_of_getElem? (i := 141) rfl)
theorem w142 {Z : State} {a0 : Array Value} {zC : Int32} {fS : Value} {e0 : Addr} {e1 : Addr} {e2 : Addr} (G : Gl Z a0 zC fS e0 e1 e2) : (Jvm.Cond.static ({ cls := "java/lang/StringLatin1", name := "equals", desc := "([B[B)Z" } : Jvm.MethodName)).before a0 Z = true := G.1 _ (List.mem_of_getElem? (i := 142) rfl)
theorem w143 {Z : State} {a0 : Array Value} {zC : Int32} {fS : Value} {e0 : Addr} {e1 : Addr} {e2 : Addr} (G : Gl Z a0 zC fS e0 e1 e2) : (Jvm.Cond.code ({ cls := "java/lang/StringLatin1", name := "equals", desc := "([B[B)Z" } : Jvm.MethodName) jdk_43_method_13_code (3 : Nat) (Option.some Jvm.ClassFile.FieldType.boolean)).before a0 Z = true := G.1 _ (List.mem_of_getElem? (i := 143) rfl)
theorem w144 {Z : State} {a0 : Array Value} {zC : Int32} {fS : Value} {e0 : Addr} {e1 : Addr} {e2 : Addr} (G : Gl Z a0 zC fS e0 e1 e2) : (Jvm.Cond.fieldLink "com/example/campo_grande/campogrande/PayloadDigestNamesPinLaw" (41 : Nat) "com/example/campo_grande/campogrande/SignatureAlgorithm" "MD5" "Lcom/example/campo_grande/campogrande/SignatureAlgorithm;").before a0 Z = true := G.1 _ (List.mem_of_getElem? (i := 144) rfl)
theorem w146 {Z : State} {a0 : Array Value} {zC : Int32} {fS : Value} {e0 : Addr} {e1 : Addr} {e2 : Addr} (G : Gl Z a0 zC fS e0 e1 e2) : (Jvm.Cond.fieldLink "com/example/campo_grande/campogrande/PayloadDigestNamesPinLaw" (38 : Nat) "com/example/campo_grande/campogrande/SignatureAlgorithm" "SHA1" "Lcom/example/campo_grande/campogrande/SignatureAlgorithm;").before a0 Z = true := G.1 _ (List.mem_of_getElem? (i := 146) rfl)
theorem watoms {Z : State} {a0 : Array Value} {zC : Int32} {fS : Value} {e0 : Addr} {e1 : Addr} {e2 : Addr} (G : Gl Z a0 zC fS e0 e1 e2) : ∀ a ∈ Bundle.stringAtoms, a.before a0 Z = true := fun d hd => by
  simp only [Bundle.stringAtoms, List.mem_cons, List.not_mem_nil, or_false] at hd
  rcases hd with rfl | rfl | rfl | rfl | rfl | rfl | rfl
  · exact (w18 G)
  · exact (w19 G)
  · exact (w20 G)
  · exact (w21 G)
  · exact (w22 G)
  · exact (w23 G)
  · exact (w24 G)
theorem d_jdk_52_m21_3 : decode jdk_52_method_21_code 3 = .ok (.iload 5, 2) := by decide +kernel
theorem d_jdk_52_m21_5 : decode jdk_52_method_21_code 5 = .ok (.iload 4, 2) := by decide +kernel
theorem d_jdk_52_m21_7 : decode jdk_52_method_21_code 7 = .ok (.if_icmp .ge 37, 3) := by decide +kernel
theorem d_jdk_52_m21_44 : decode jdk_52_method_21_code 44 = .ok (.iload 4, 2) := by decide +kernel
theorem d_jdk_52_m21_46 : decode jdk_52_method_21_code 46 = .ok (.ireturn, 1) := by decide +kernel
theorem d_jdk_52_m21_10 : decode jdk_52_method_21_code 10 = .ok (.aload_n 0, 1) := by decide +kernel
theorem d_jdk_52_m21_11 : decode jdk_52_method_21_code 11 = .ok (.iload_n 1, 1) := by decide +kernel
theorem d_jdk_52_m21_12 : decode jdk_52_method_21_code 12 = .ok (.caload, 1) := by decide +kernel
theorem d_jdk_52_m21_13 : decode jdk_52_method_21_code 13 = .ok (.istore 6, 2) := by decide +kernel
theorem d_jdk_52_m21_15 : decode jdk_52_method_21_code 15 = .ok (.iload 6, 2) := by decide +kernel
theorem d_jdk_52_m21_17 : decode jdk_52_method_21_code 17 = .ok (.sipush 255, 3) := by decide +kernel
theorem d_jdk_52_m21_20 : decode jdk_52_method_21_code 20 = .ok (.if_icmp .le 6, 3) := by decide +kernel
theorem d_jdk_52_m21_26 : decode jdk_52_method_21_code 26 = .ok (.aload_n 2, 1) := by decide +kernel
theorem d_jdk_52_m21_27 : decode jdk_52_method_21_code 27 = .ok (.iload_n 3, 1) := by decide +kernel
theorem d_jdk_52_m21_28 : decode jdk_52_method_21_code 28 = .ok (.iload 6, 2) := by decide +kernel
theorem d_jdk_52_m21_30 : decode jdk_52_method_21_code 30 = .ok (.i2b, 1) := by decide +kernel
theorem d_jdk_52_m21_31 : decode jdk_52_method_21_code 31 = .ok (.bastore, 1) := by decide +kernel
theorem d_jdk_52_m21_32 : decode jdk_52_method_21_code 32 = .ok (.iinc 1 1, 3) := by decide +kernel
theorem d_jdk_52_m21_35 : decode jdk_52_method_21_code 35 = .ok (.iinc 3 1, 3) := by decide +kernel
theorem d_jdk_52_m21_38 : decode jdk_52_method_21_code 38 = .ok (.iinc 5 1, 3) := by decide +kernel
theorem d_jdk_52_m21_41 : decode jdk_52_method_21_code 41 = .ok (.goto (-38), 3) := by decide +kernel
theorem d_jdk_52_m21_0 : decode jdk_52_method_21_code 0 = .ok (.iconst 0, 1) := by decide +kernel
theorem d_jdk_52_m21_1 : decode jdk_52_method_21_code 1 = .ok (.istore 5, 2) := by decide +kernel
theorem pn0 : plainName "java/lang/StringUTF16" = true := by first | (simp [plainName, overriddenIn]; done) | decide +kernel
theorem d_jdk_52_m15_0 : decode jdk_52_method_15_code 0 = .ok (.iload_n 1, 1) := by decide +kernel
theorem d_jdk_52_m15_1 : decode jdk_52_method_15_code 1 = .ok (.aload_n 0, 1) := by decide +kernel
theorem d_jdk_52_m15_2 : decode jdk_52_method_15_code 2 = .ok (.arraylength, 1) := by decide +kernel
theorem d_jdk_52_m15_3 : decode jdk_52_method_15_code 3 = .ok (.isub, 1) := by decide +kernel
theorem d_jdk_52_m15_4 : decode jdk_52_method_15_code 4 = .ok (.bipush 31, 2) := by decide +kernel
theorem d_jdk_52_m15_6 : decode jdk_52_method_15_code 6 = .ok (.iushr, 1) := by decide +kernel
theorem d_jdk_52_m15_7 : decode jdk_52_method_15_code 7 = .ok (.i2b, 1) := by decide +kernel
theorem d_jdk_52_m15_8 : decode jdk_52_method_15_code 8 = .ok (.ireturn, 1) := by decide +kernel
theorem d_jdk_52_m16_0 : decode jdk_52_method_16_code 0 = .ok (.iload_n 2, 1) := by decide +kernel
theorem d_jdk_52_m16_1 : decode jdk_52_method_16_code 1 = .ok (.newarray .byte, 2) := by decide +kernel
theorem d_jdk_52_m16_3 : decode jdk_52_method_16_code 3 = .ok (.astore_n 3, 1) := by decide +kernel
theorem d_jdk_52_m16_4 : decode jdk_52_method_16_code 4 = .ok (.aload_n 0, 1) := by decide +kernel
theorem d_jdk_52_m16_5 : decode jdk_52_method_16_code 5 = .ok (.iload_n 1, 1) := by decide +kernel
theorem d_jdk_52_m16_6 : decode jdk_52_method_16_code 6 = .ok (.aload_n 3, 1) := by decide +kernel
theorem d_jdk_52_m16_7 : decode jdk_52_method_16_code 7 = .ok (.iconst 0, 1) := by decide +kernel
theorem d_jdk_52_m16_8 : decode jdk_52_method_16_code 8 = .ok (.iload_n 2, 1) := by decide +kernel
theorem d_jdk_52_m16_9 : decode jdk_52_method_16_code 9 = .ok (.invokestatic 115, 3) := by decide +kernel
theorem pd1 : parseMethodDescriptor "([CI[BII)I" = some ⟨[(.array .char), .int, (.array .byte), .int, .int], some .int⟩ := by decide +kernel
theorem d_jdk_52_m16_12 : decode jdk_52_method_16_code 12 = .ok (.istore 4, 2) := by decide +kernel
theorem d_jdk_52_m16_14 : decode jdk_52_method_16_code 14 = .ok (.iload 4, 2) := by decide +kernel
theorem d_jdk_52_m16_16 : decode jdk_52_method_16_code 16 = .ok (.iload_n 2, 1) := by decide +kernel
theorem d_jdk_52_m16_17 : decode jdk_52_method_16_code 17 = .ok (.if_icmp .eq 40, 3) := by decide +kernel
theorem d_jdk_52_m16_57 : decode jdk_52_method_16_code 57 = .ok (.aload_n 3, 1) := by decide +kernel
theorem d_jdk_52_m16_58 : decode jdk_52_method_16_code 58 = .ok (.areturn, 1) := by decide +kernel
theorem d_jdk_42_m149_0 : decode jdk_42_method_149_code 0 = .ok (.aload_n 0, 1) := by decide +kernel
theorem d_jdk_42_m149_1 : decode jdk_42_method_149_code 1 = .ok (.invokespecial 1, 3) := by decide +kernel
theorem d_jdk_42_m149_4 : decode jdk_42_method_149_code 4 = .ok (.iload_n 3, 1) := by decide +kernel
theorem d_jdk_42_m149_5 : decode jdk_42_method_149_code 5 = .ok (.ifCond .ne 22, 3) := by decide +kernel
theorem d_jdk_42_m149_27 : decode jdk_42_method_149_code 27 = .ok (.getstatic 38, 3) := by decide +kernel
theorem d_jdk_42_m149_30 : decode jdk_42_method_149_code 30 = .ok (.ifCond .eq 28, 3) := by decide +kernel
theorem d_jdk_42_m149_33 : decode jdk_42_method_149_code 33 = .ok (.aload_n 1, 1) := by decide +kernel
theorem d_jdk_42_m149_34 : decode jdk_42_method_149_code 34 = .ok (.iload_n 2, 1) := by decide +kernel
theorem d_jdk_42_m149_35 : decode jdk_42_method_149_code 35 = .ok (.iload_n 3, 1) := by decide +kernel
theorem d_jdk_42_m149_36 : decode jdk_42_method_149_code 36 = .ok (.invokestatic 177, 3) := by decide +kernel
theorem pd2 : parseMethodDescriptor "([CII)[B" = some ⟨[(.array .char), .int, .int], some (.array .byte)⟩ := by decide +kernel
theorem d_jdk_42_m149_39 : decode jdk_42_method_149_code 39 = .ok (.astore 5, 2) := by decide +kernel
theorem d_jdk_42_m149_41 : decode jdk_42_method_149_code 41 = .ok (.aload_n 0, 1) := by decide +kernel
theorem d_jdk_42_m149_42 : decode jdk_42_method_149_code 42 = .ok (.aload 5, 2) := by decide +kernel
theorem d_jdk_42_m149_44 : decode jdk_42_method_149_code 44 = .ok (.iload_n 3, 1) := by decide +kernel
theorem d_jdk_42_m149_45 : decode jdk_42_method_149_code 45 = .ok (.invokestatic 47, 3) := by decide +kernel
theorem pd3 : parseMethodDescriptor "([BI)B" = some ⟨[(.array .byte), .int], some .byte⟩ := by decide +kernel
theorem d_jdk_42_m149_48 : decode jdk_42_method_149_code 48 = .ok (.putfield 15, 3) := by decide +kernel
theorem d_jdk_42_m149_51 : decode jdk_42_method_149_code 51 = .ok (.aload_n 0, 1) := by decide +kernel
theorem d_jdk_42_m149_52 : decode jdk_42_method_149_code 52 = .ok (.aload 5, 2) := by decide +kernel
theorem d_jdk_42_m149_54 : decode jdk_42_method_149_code 54 = .ok (.putfield 9, 3) := by decide +kernel
theorem d_jdk_42_m149_57 : decode jdk_42_method_149_code 57 = .ok (.return_, 1) := by decide +kernel
theorem pn4 : plainName "java/lang/String" = true := by first | (simp [plainName, overriddenIn]; done) | decide +kernel
theorem d_jdk_42_m3_0 : decode jdk_42_method_3_code 0 = .ok (.aload_n 0, 1) := by decide +kernel
theorem d_jdk_42_m3_1 : decode jdk_42_method_3_code 1 = .ok (.aload_n 1, 1) := by decide +kernel
theorem d_jdk_42_m3_2 : decode jdk_42_method_3_code 2 = .ok (.iconst 0, 1) := by decide +kernel
theorem d_jdk_42_m3_3 : decode jdk_42_method_3_code 3 = .ok (.aload_n 1, 1) := by decide +kernel
theorem d_jdk_42_m3_4 : decode jdk_42_method_3_code 4 = .ok (.arraylength, 1) := by decide +kernel
theorem d_jdk_42_m3_5 : decode jdk_42_method_3_code 5 = .ok (.aconst_null, 1) := by decide +kernel
theorem d_jdk_42_m3_6 : decode jdk_42_method_3_code 6 = .ok (.invokespecial 27, 3) := by decide +kernel
theorem pd5 : parseMethodDescriptor "([CIILjava/lang/Void;)V" = some ⟨[(.array .char), .int, .int, (.object "java/lang/Void")], none⟩ := by decide +kernel
theorem d_jdk_42_m3_9 : decode jdk_42_method_3_code 9 = .ok (.return_, 1) := by decide +kernel
theorem d_jdk_42_m152_0 : decode jdk_42_method_152_code 0 = .ok (.getstatic 38, 3) := by decide +kernel
theorem d_jdk_42_m152_3 : decode jdk_42_method_152_code 3 = .ok (.ifCond .eq 10, 3) := by decide +kernel
theorem d_jdk_42_m152_6 : decode jdk_42_method_152_code 6 = .ok (.aload_n 0, 1) := by decide +kernel
theorem d_jdk_42_m152_7 : decode jdk_42_method_152_code 7 = .ok (.getfield 15, 3) := by decide +kernel
theorem d_jdk_42_m152_10 : decode jdk_42_method_152_code 10 = .ok (.goto 4, 3) := by decide +kernel
theorem d_jdk_42_m152_14 : decode jdk_42_method_152_code 14 = .ok (.ireturn, 1) := by decide +kernel
theorem d_jdk_42_m54_0 : decode jdk_42_method_54_code 0 = .ok (.aload_n 0, 1) := by decide +kernel
theorem d_jdk_42_m54_1 : decode jdk_42_method_54_code 1 = .ok (.getfield 9, 3) := by decide +kernel
theorem d_jdk_42_m54_4 : decode jdk_42_method_54_code 4 = .ok (.arraylength, 1) := by decide +kernel
theorem d_jdk_42_m54_5 : decode jdk_42_method_54_code 5 = .ok (.aload_n 0, 1) := by decide +kernel
theorem d_jdk_42_m54_6 : decode jdk_42_method_54_code 6 = .ok (.invokevirtual 335, 3) := by decide +kernel
theorem pd6 : parseMethodDescriptor "()B" = some ⟨[], some .byte⟩ := by decide +kernel
theorem d_jdk_42_m54_9 : decode jdk_42_method_54_code 9 = .ok (.ishr, 1) := by decide +kernel
theorem d_jdk_42_m54_10 : decode jdk_42_method_54_code 10 = .ok (.ireturn, 1) := by decide +kernel
theorem d_jdk_42_m154_0 : decode jdk_42_method_154_code 0 = .ok (.getstatic 38, 3) := by decide +kernel
theorem d_jdk_42_m154_3 : decode jdk_42_method_154_code 3 = .ok (.ifCond .eq 14, 3) := by decide +kernel
theorem d_jdk_42_m154_6 : decode jdk_42_method_154_code 6 = .ok (.aload_n 0, 1) := by decide +kernel
theorem d_jdk_42_m154_7 : decode jdk_42_method_154_code 7 = .ok (.getfield 15, 3) := by decide +kernel
theorem d_jdk_42_m154_10 : decode jdk_42_method_154_code 10 = .ok (.ifCond .ne 7, 3) := by decide +kernel
theorem d_jdk_42_m154_13 : decode jdk_42_method_154_code 13 = .ok (.iconst 1, 1) := by decide +kernel
theorem d_jdk_42_m154_14 : decode jdk_42_method_154_code 14 = .ok (.goto 4, 3) := by decide +kernel
theorem d_jdk_42_m154_18 : decode jdk_42_method_154_code 18 = .ok (.ireturn, 1) := by decide +kernel
theorem d_jdk_41_m11_0 : decode jdk_41_method_11_code 0 = .ok (.iload_n 0, 1) := by decide +kernel
theorem d_jdk_41_m11_1 : decode jdk_41_method_11_code 1 = .ok (.ifCond .lt 8, 3) := by decide +kernel
theorem d_jdk_41_m11_4 : decode jdk_41_method_11_code 4 = .ok (.iload_n 0, 1) := by decide +kernel
theorem d_jdk_41_m11_5 : decode jdk_41_method_11_code 5 = .ok (.iload_n 1, 1) := by decide +kernel
theorem d_jdk_41_m11_6 : decode jdk_41_method_11_code 6 = .ok (.if_icmp .lt 10, 3) := by decide +kernel
theorem d_jdk_41_m11_16 : decode jdk_41_method_11_code 16 = .ok (.iload_n 0, 1) := by decide +kernel
theorem d_jdk_41_m11_17 : decode jdk_41_method_11_code 17 = .ok (.ireturn, 1) := by decide +kernel
theorem pn7 : plainName "jdk/internal/util/Preconditions" = true := by first | (simp [plainName, overriddenIn]; done) | decide +kernel
theorem d_jdk_42_m155_0 : decode jdk_42_method_155_code 0 = .ok (.iload_n 0, 1) := by decide +kernel
theorem d_jdk_42_m155_1 : decode jdk_42_method_155_code 1 = .ok (.iload_n 1, 1) := by decide +kernel
theorem d_jdk_42_m155_2 : decode jdk_42_method_155_code 2 = .ok (.getstatic 1053, 3) := by decide +kernel
theorem d_jdk_42_m155_5 : decode jdk_42_method_155_code 5 = .ok (.invokestatic 1059, 3) := by decide +kernel
theorem pd8 : parseMethodDescriptor "(IILjava/util/function/BiFunction;)I" = some ⟨[.int, .int, (.object "java/util/function/BiFunction")], some .int⟩ := by decide +kernel
theorem d_jdk_42_m155_8 : decode jdk_42_method_155_code 8 = .ok (.pop, 1) := by decide +kernel
theorem d_jdk_42_m155_9 : decode jdk_42_method_155_code 9 = .ok (.return_, 1) := by decide +kernel
theorem d_jdk_43_m2_0 : decode jdk_43_method_2_code 0 = .ok (.iload_n 1, 1) := by decide +kernel
theorem d_jdk_43_m2_1 : decode jdk_43_method_2_code 1 = .ok (.aload_n 0, 1) := by decide +kernel
theorem d_jdk_43_m2_2 : decode jdk_43_method_2_code 2 = .ok (.arraylength, 1) := by decide +kernel
theorem d_jdk_43_m2_3 : decode jdk_43_method_2_code 3 = .ok (.invokestatic 9, 3) := by decide +kernel
theorem pd9 : parseMethodDescriptor "(II)V" = some ⟨[.int, .int], none⟩ := by decide +kernel
theorem d_jdk_43_m2_6 : decode jdk_43_method_2_code 6 = .ok (.aload_n 0, 1) := by decide +kernel
theorem d_jdk_43_m2_7 : decode jdk_43_method_2_code 7 = .ok (.iload_n 1, 1) := by decide +kernel
theorem d_jdk_43_m2_8 : decode jdk_43_method_2_code 8 = .ok (.baload, 1) := by decide +kernel
theorem d_jdk_43_m2_9 : decode jdk_43_method_2_code 9 = .ok (.sipush 255, 3) := by decide +kernel
theorem d_jdk_43_m2_12 : decode jdk_43_method_2_code 12 = .ok (.iand, 1) := by decide +kernel
theorem d_jdk_43_m2_13 : decode jdk_43_method_2_code 13 = .ok (.i2c, 1) := by decide +kernel
theorem d_jdk_43_m2_14 : decode jdk_43_method_2_code 14 = .ok (.ireturn, 1) := by decide +kernel
theorem pn10 : plainName "java/lang/StringLatin1" = true := by first | (simp [plainName, overriddenIn]; done) | decide +kernel
theorem d_jdk_42_m56_0 : decode jdk_42_method_56_code 0 = .ok (.aload_n 0, 1) := by decide +kernel
theorem d_jdk_42_m56_1 : decode jdk_42_method_56_code 1 = .ok (.invokevirtual 492, 3) := by decide +kernel
theorem pd11 : parseMethodDescriptor "()Z" = some ⟨[], some .boolean⟩ := by decide +kernel
theorem d_jdk_42_m56_4 : decode jdk_42_method_56_code 4 = .ok (.ifCond .eq 12, 3) := by decide +kernel
theorem d_jdk_42_m56_7 : decode jdk_42_method_56_code 7 = .ok (.aload_n 0, 1) := by decide +kernel
theorem d_jdk_42_m56_8 : decode jdk_42_method_56_code 8 = .ok (.getfield 9, 3) := by decide +kernel
theorem d_jdk_42_m56_11 : decode jdk_42_method_56_code 11 = .ok (.iload_n 1, 1) := by decide +kernel
theorem d_jdk_42_m56_12 : decode jdk_42_method_56_code 12 = .ok (.invokestatic 495, 3) := by decide +kernel
theorem pd12 : parseMethodDescriptor "([BI)C" = some ⟨[(.array .byte), .int], some .char⟩ := by decide +kernel
theorem d_jdk_42_m56_15 : decode jdk_42_method_56_code 15 = .ok (.ireturn, 1) := by decide +kernel
theorem d_jdk_43_m13_0 : decode jdk_43_method_13_code 0 = .ok (.aload_n 0, 1) := by decide +kernel
theorem d_jdk_43_m13_1 : decode jdk_43_method_13_code 1 = .ok (.arraylength, 1) := by decide +kernel
theorem d_jdk_43_m13_2 : decode jdk_43_method_13_code 2 = .ok (.aload_n 1, 1) := by decide +kernel
theorem d_jdk_43_m13_3 : decode jdk_43_method_13_code 3 = .ok (.arraylength, 1) := by decide +kernel
theorem d_jdk_43_m13_4 : decode jdk_43_method_13_code 4 = .ok (.if_icmp .ne 30, 3) := by decide +kernel
theorem d_jdk_43_m13_7 : decode jdk_43_method_13_code 7 = .ok (.iconst 0, 1) := by decide +kernel
theorem d_jdk_43_m13_8 : decode jdk_43_method_13_code 8 = .ok (.istore_n 2, 1) := by decide +kernel
theorem d_jdk_43_m13_9 : decode jdk_43_method_13_code 9 = .ok (.iload_n 2, 1) := by decide +kernel
theorem d_jdk_43_m13_10 : decode jdk_43_method_13_code 10 = .ok (.aload_n 0, 1) := by decide +kernel
theorem d_jdk_43_m13_11 : decode jdk_43_method_13_code 11 = .ok (.arraylength, 1) := by decide +kernel
theorem d_jdk_43_m13_12 : decode jdk_43_method_13_code 12 = .ok (.if_icmp .ge 20, 3) := by decide +kernel
theorem d_jdk_43_m13_32 : decode jdk_43_method_13_code 32 = .ok (.iconst 1, 1) := by decide +kernel
theorem d_jdk_43_m13_33 : decode jdk_43_method_13_code 33 = .ok (.ireturn, 1) := by decide +kernel
theorem d_jdk_43_m13_15 : decode jdk_43_method_13_code 15 = .ok (.aload_n 0, 1) := by decide +kernel
theorem d_jdk_43_m13_16 : decode jdk_43_method_13_code 16 = .ok (.iload_n 2, 1) := by decide +kernel
theorem d_jdk_43_m13_17 : decode jdk_43_method_13_code 17 = .ok (.baload, 1) := by decide +kernel
theorem d_jdk_43_m13_18 : decode jdk_43_method_13_code 18 = .ok (.aload_n 1, 1) := by decide +kernel
theorem d_jdk_43_m13_19 : decode jdk_43_method_13_code 19 = .ok (.iload_n 2, 1) := by decide +kernel
theorem d_jdk_43_m13_20 : decode jdk_43_method_13_code 20 = .ok (.baload, 1) := by decide +kernel
theorem d_jdk_43_m13_21 : decode jdk_43_method_13_code 21 = .ok (.if_icmp .eq 5, 3) := by decide +kernel
theorem d_jdk_43_m13_26 : decode jdk_43_method_13_code 26 = .ok (.iinc 2 1, 3) := by decide +kernel
theorem d_jdk_43_m13_29 : decode jdk_43_method_13_code 29 = .ok (.goto (-20), 3) := by decide +kernel
theorem d_jdk_43_m13_24 : decode jdk_43_method_13_code 24 = .ok (.iconst 0, 1) := by decide +kernel
theorem d_jdk_43_m13_25 : decode jdk_43_method_13_code 25 = .ok (.ireturn, 1) := by decide +kernel
theorem d_jdk_43_m13_34 : decode jdk_43_method_13_code 34 = .ok (.iconst 0, 1) := by decide +kernel
theorem d_jdk_43_m13_35 : decode jdk_43_method_13_code 35 = .ok (.ireturn, 1) := by decide +kernel
theorem d_jdk_42_m66_0 : decode jdk_42_method_66_code 0 = .ok (.aload_n 0, 1) := by decide +kernel
theorem d_jdk_42_m66_1 : decode jdk_42_method_66_code 1 = .ok (.aload_n 1, 1) := by decide +kernel
theorem d_jdk_42_m66_2 : decode jdk_42_method_66_code 2 = .ok (.if_acmp .ne 5, 3) := by decide +kernel
theorem d_jdk_42_m66_7 : decode jdk_42_method_66_code 7 = .ok (.aload_n 1, 1) := by decide +kernel
theorem d_jdk_42_m66_8 : decode jdk_42_method_66_code 8 = .ok (.instanceof 10, 3) := by decide +kernel
theorem d_jdk_42_m66_11 : decode jdk_42_method_66_code 11 = .ok (.ifCond .eq 43, 3) := by decide +kernel
theorem d_jdk_42_m66_14 : decode jdk_42_method_66_code 14 = .ok (.aload_n 1, 1) := by decide +kernel
theorem d_jdk_42_m66_15 : decode jdk_42_method_66_code 15 = .ok (.checkcast 10, 3) := by decide +kernel
theorem d_jdk_42_m66_18 : decode jdk_42_method_66_code 18 = .ok (.astore_n 2, 1) := by decide +kernel
theorem d_jdk_42_m66_19 : decode jdk_42_method_66_code 19 = .ok (.getstatic 38, 3) := by decide +kernel
theorem d_jdk_42_m66_22 : decode jdk_42_method_66_code 22 = .ok (.ifCond .eq 14, 3) := by decide +kernel
theorem d_jdk_42_m66_25 : decode jdk_42_method_66_code 25 = .ok (.aload_n 0, 1) := by decide +kernel
theorem d_jdk_42_m66_26 : decode jdk_42_method_66_code 26 = .ok (.getfield 15, 3) := by decide +kernel
theorem d_jdk_42_m66_29 : decode jdk_42_method_66_code 29 = .ok (.aload_n 2, 1) := by decide +kernel
theorem d_jdk_42_m66_30 : decode jdk_42_method_66_code 30 = .ok (.getfield 15, 3) := by decide +kernel
theorem d_jdk_42_m66_33 : decode jdk_42_method_66_code 33 = .ok (.if_icmp .ne 21, 3) := by decide +kernel
theorem d_jdk_42_m66_36 : decode jdk_42_method_66_code 36 = .ok (.aload_n 0, 1) := by decide +kernel
theorem d_jdk_42_m66_37 : decode jdk_42_method_66_code 37 = .ok (.getfield 9, 3) := by decide +kernel
theorem d_jdk_42_m66_40 : decode jdk_42_method_66_code 40 = .ok (.aload_n 2, 1) := by decide +kernel
theorem d_jdk_42_m66_41 : decode jdk_42_method_66_code 41 = .ok (.getfield 9, 3) := by decide +kernel
theorem d_jdk_42_m66_44 : decode jdk_42_method_66_code 44 = .ok (.invokestatic 541, 3) := by decide +kernel
theorem pd13 : parseMethodDescriptor "([B[B)Z" = some ⟨[(.array .byte), (.array .byte)], some .boolean⟩ := by decide +kernel
theorem d_jdk_42_m66_47 : decode jdk_42_method_66_code 47 = .ok (.ifCond .eq 7, 3) := by decide +kernel
theorem d_jdk_42_m66_54 : decode jdk_42_method_66_code 54 = .ok (.iconst 0, 1) := by decide +kernel
theorem d_jdk_42_m66_55 : decode jdk_42_method_66_code 55 = .ok (.ireturn, 1) := by decide +kernel
theorem d_jdk_42_m66_50 : decode jdk_42_method_66_code 50 = .ok (.iconst 1, 1) := by decide +kernel
theorem d_jdk_42_m66_51 : decode jdk_42_method_66_code 51 = .ok (.goto 4, 3) := by decide +kernel
theorem d_jdk_42_m66_5 : decode jdk_42_method_66_code 5 = .ok (.iconst 1, 1) := by decide +kernel
theorem d_jdk_42_m66_6 : decode jdk_42_method_66_code 6 = .ok (.ireturn, 1) := by decide +kernel
theorem d_jdk_31_m11_0 : decode jdk_31_method_11_code 0 = .ok (.aload_n 0, 1) := by decide +kernel
theorem d_jdk_31_m11_1 : decode jdk_31_method_11_code 1 = .ok (.ifnonnull 12, 3) := by decide +kernel
theorem d_jdk_31_m11_13 : decode jdk_31_method_11_code 13 = .ok (.aload_n 0, 1) := by decide +kernel
theorem d_jdk_31_m11_14 : decode jdk_31_method_11_code 14 = .ok (.areturn, 1) := by decide +kernel
theorem pn14 : plainName "java/util/Objects" = true := by first | (simp [plainName, overriddenIn]; done) | decide +kernel
theorem d_prog_25_m6_0 : decode prog_25_method_6_code 0 = .ok (.aload_n 1, 1) := by decide +kernel
theorem d_prog_25_m6_1 : decode prog_25_method_6_code 1 = .ok (.invokevirtual 60, 3) := by decide +kernel
theorem pd15 : parseMethodDescriptor "()I" = some ⟨[], some .int⟩ := by decide +kernel
theorem d_prog_25_m6_4 : decode prog_25_method_6_code 4 = .ok (.iconst 2, 1) := by decide +kernel
theorem d_prog_25_m6_5 : decode prog_25_method_6_code 5 = .ok (.aload_n 0, 1) := by decide +kernel
theorem d_prog_25_m6_6 : decode prog_25_method_6_code 6 = .ok (.getfield 39, 3) := by decide +kernel
theorem d_prog_25_m6_9 : decode prog_25_method_6_code 9 = .ok (.imul, 1) := by decide +kernel
theorem d_prog_25_m6_10 : decode prog_25_method_6_code 10 = .ok (.if_icmp .eq 5, 3) := by decide +kernel
theorem d_prog_25_m6_15 : decode prog_25_method_6_code 15 = .ok (.iconst 0, 1) := by decide +kernel
theorem d_prog_25_m6_16 : decode prog_25_method_6_code 16 = .ok (.istore_n 2, 1) := by decide +kernel
theorem d_prog_25_m6_17 : decode prog_25_method_6_code 17 = .ok (.iload_n 2, 1) := by decide +kernel
theorem d_prog_25_m6_18 : decode prog_25_method_6_code 18 = .ok (.aload_n 1, 1) := by decide +kernel
theorem d_prog_25_m6_19 : decode prog_25_method_6_code 19 = .ok (.invokevirtual 60, 3) := by decide +kernel
theorem d_prog_25_m6_22 : decode prog_25_method_6_code 22 = .ok (.if_icmp .ge 41, 3) := by decide +kernel
theorem d_prog_25_m6_63 : decode prog_25_method_6_code 63 = .ok (.iconst 1, 1) := by decide +kernel
theorem d_prog_25_m6_64 : decode prog_25_method_6_code 64 = .ok (.ireturn, 1) := by decide +kernel
theorem d_prog_25_m6_25 : decode prog_25_method_6_code 25 = .ok (.aload_n 1, 1) := by decide +kernel
theorem d_prog_25_m6_26 : decode prog_25_method_6_code 26 = .ok (.iload_n 2, 1) := by decide +kernel
theorem d_prog_25_m6_27 : decode prog_25_method_6_code 27 = .ok (.invokevirtual 64, 3) := by decide +kernel
theorem pd16 : parseMethodDescriptor "(I)C" = some ⟨[.int], some .char⟩ := by decide +kernel
theorem d_prog_25_m6_30 : decode prog_25_method_6_code 30 = .ok (.istore_n 3, 1) := by decide +kernel
theorem d_prog_25_m6_31 : decode prog_25_method_6_code 31 = .ok (.iload_n 3, 1) := by decide +kernel
theorem d_prog_25_m6_32 : decode prog_25_method_6_code 32 = .ok (.bipush 48, 2) := by decide +kernel
theorem d_prog_25_m6_34 : decode prog_25_method_6_code 34 = .ok (.if_icmp .lt 9, 3) := by decide +kernel
theorem d_prog_25_m6_43 : decode prog_25_method_6_code 43 = .ok (.iload_n 3, 1) := by decide +kernel
theorem d_prog_25_m6_44 : decode prog_25_method_6_code 44 = .ok (.bipush 97, 2) := by decide +kernel
theorem d_prog_25_m6_46 : decode prog_25_method_6_code 46 = .ok (.if_icmp .lt 9, 3) := by decide +kernel
theorem d_prog_25_m6_49 : decode prog_25_method_6_code 49 = .ok (.iload_n 3, 1) := by decide +kernel
theorem d_prog_25_m6_50 : decode prog_25_method_6_code 50 = .ok (.bipush 102, 2) := by decide +kernel
theorem d_prog_25_m6_52 : decode prog_25_method_6_code 52 = .ok (.if_icmp .le 5, 3) := by decide +kernel
theorem d_prog_25_m6_57 : decode prog_25_method_6_code 57 = .ok (.iinc 2 1, 3) := by decide +kernel
theorem d_prog_25_m6_60 : decode prog_25_method_6_code 60 = .ok (.goto (-43), 3) := by decide +kernel
theorem d_prog_25_m6_37 : decode prog_25_method_6_code 37 = .ok (.iload_n 3, 1) := by decide +kernel
theorem d_prog_25_m6_38 : decode prog_25_method_6_code 38 = .ok (.bipush 57, 2) := by decide +kernel
theorem d_prog_25_m6_40 : decode prog_25_method_6_code 40 = .ok (.if_icmp .le 17, 3) := by decide +kernel
theorem pn17 : plainName "com/example/campo_grande/campogrande/SignatureAlgorithm" = true := by first | (simp [plainName, overriddenIn]; done) | decide +kernel
theorem d_prog_13_m1_0 : decode prog_13_method_1_code 0 = .ok (.aload_n 0, 1) := by decide +kernel
theorem d_prog_13_m1_1 : decode prog_13_method_1_code 1 = .ok (.invokespecial 1, 3) := by decide +kernel
theorem d_prog_13_m1_4 : decode prog_13_method_1_code 4 = .ok (.aload_n 2, 1) := by decide +kernel
theorem d_prog_13_m1_5 : decode prog_13_method_1_code 5 = .ok (.ldc 7, 2) := by decide +kernel
theorem d_prog_13_m1_7 : decode prog_13_method_1_code 7 = .ok (.invokestatic 9, 3) := by decide +kernel
theorem pd18 : parseMethodDescriptor "(Ljava/lang/Object;Ljava/lang/String;)Ljava/lang/Object;" = some ⟨[(.object "java/lang/Object"), (.object "java/lang/String")], some (.object "java/lang/Object")⟩ := by decide +kernel
theorem d_prog_13_m1_10 : decode prog_13_method_1_code 10 = .ok (.pop, 1) := by decide +kernel
theorem d_prog_13_m1_11 : decode prog_13_method_1_code 11 = .ok (.aload_n 3, 1) := by decide +kernel
theorem d_prog_13_m1_12 : decode prog_13_method_1_code 12 = .ok (.ldc 15, 2) := by decide +kernel
theorem d_prog_13_m1_14 : decode prog_13_method_1_code 14 = .ok (.invokestatic 9, 3) := by decide +kernel
theorem d_prog_13_m1_17 : decode prog_13_method_1_code 17 = .ok (.pop, 1) := by decide +kernel
theorem d_prog_13_m1_18 : decode prog_13_method_1_code 18 = .ok (.iload_n 1, 1) := by decide +kernel
theorem d_prog_13_m1_19 : decode prog_13_method_1_code 19 = .ok (.ifCond .ge 9, 3) := by decide +kernel
theorem d_prog_13_m1_28 : decode prog_13_method_1_code 28 = .ok (.aload_n 2, 1) := by decide +kernel
theorem d_prog_13_m1_29 : decode prog_13_method_1_code 29 = .ok (.aload_n 3, 1) := by decide +kernel
theorem d_prog_13_m1_30 : decode prog_13_method_1_code 30 = .ok (.invokevirtual 25, 3) := by decide +kernel
theorem pd19 : parseMethodDescriptor "(Ljava/lang/String;)Z" = some ⟨[(.object "java/lang/String")], some .boolean⟩ := by decide +kernel
theorem d_prog_13_m1_33 : decode prog_13_method_1_code 33 = .ok (.ifCond .ne 22, 3) := by decide +kernel
theorem d_prog_13_m1_55 : decode prog_13_method_1_code 55 = .ok (.iload 4, 2) := by decide +kernel
theorem d_prog_13_m1_57 : decode prog_13_method_1_code 57 = .ok (.ifCond .ge 9, 3) := by decide +kernel
theorem d_prog_13_m1_66 : decode prog_13_method_1_code 66 = .ok (.aload_n 0, 1) := by decide +kernel
theorem d_prog_13_m1_67 : decode prog_13_method_1_code 67 = .ok (.iload_n 1, 1) := by decide +kernel
theorem d_prog_13_m1_68 : decode prog_13_method_1_code 68 = .ok (.putfield 47, 3) := by decide +kernel
theorem d_prog_13_m1_71 : decode prog_13_method_1_code 71 = .ok (.aload_n 0, 1) := by decide +kernel
theorem d_prog_13_m1_72 : decode prog_13_method_1_code 72 = .ok (.aload_n 2, 1) := by decide +kernel
theorem d_prog_13_m1_73 : decode prog_13_method_1_code 73 = .ok (.putfield 51, 3) := by decide +kernel
theorem d_prog_13_m1_76 : decode prog_13_method_1_code 76 = .ok (.aload_n 0, 1) := by decide +kernel
theorem d_prog_13_m1_77 : decode prog_13_method_1_code 77 = .ok (.aload_n 3, 1) := by decide +kernel
theorem d_prog_13_m1_78 : decode prog_13_method_1_code 78 = .ok (.putfield 54, 3) := by decide +kernel
theorem d_prog_13_m1_81 : decode prog_13_method_1_code 81 = .ok (.aload_n 0, 1) := by decide +kernel
theorem d_prog_13_m1_82 : decode prog_13_method_1_code 82 = .ok (.iload 4, 2) := by decide +kernel
theorem d_prog_13_m1_84 : decode prog_13_method_1_code 84 = .ok (.putfield 57, 3) := by decide +kernel
theorem d_prog_13_m1_87 : decode prog_13_method_1_code 87 = .ok (.return_, 1) := by decide +kernel
theorem pn20 : plainName "com/example/campo_grande/campogrande/ContentKey" = true := by first | (simp [plainName, overriddenIn]; done) | decide +kernel
theorem d_m4_0 : decode method_4_code 0 = .ok (.ldc 44, 2) := by decide +kernel
theorem d_m4_2 : decode method_4_code 2 = .ok (.iload_n 0, 1) := by decide +kernel
theorem d_m4_3 : decode method_4_code 3 = .ok (.bipush 15, 2) := by decide +kernel
theorem d_m4_5 : decode method_4_code 5 = .ok (.iand, 1) := by decide +kernel
theorem d_m4_6 : decode method_4_code 6 = .ok (.invokevirtual 46, 3) := by decide +kernel
theorem d_m4_9 : decode method_4_code 9 = .ok (.ireturn, 1) := by decide +kernel
theorem pn21 : plainName "com/example/campo_grande/campogrande/PayloadDigestNamesPinLaw" = true := by first | (simp [plainName, overriddenIn]; done) | decide +kernel
theorem d_m3_0 : decode method_3_code 0 = .ok (.iload_n 0, 1) := by decide +kernel
theorem d_m3_1 : decode method_3_code 1 = .ok (.ifCond .ne 7, 3) := by decide +kernel
theorem d_m3_4 : decode method_3_code 4 = .ok (.getstatic 32, 3) := by decide +kernel
theorem d_m3_7 : decode method_3_code 7 = .ok (.areturn, 1) := by decide +kernel
theorem d_m3_8 : decode method_3_code 8 = .ok (.iload_n 0, 1) := by decide +kernel
theorem d_m3_9 : decode method_3_code 9 = .ok (.iconst 1, 1) := by decide +kernel
theorem d_m3_10 : decode method_3_code 10 = .ok (.if_icmp .ne 7, 3) := by decide +kernel
theorem d_m3_13 : decode method_3_code 13 = .ok (.getstatic 38, 3) := by decide +kernel
theorem d_m3_16 : decode method_3_code 16 = .ok (.areturn, 1) := by decide +kernel
theorem d_m3_17 : decode method_3_code 17 = .ok (.getstatic 41, 3) := by decide +kernel
theorem d_m3_20 : decode method_3_code 20 = .ok (.areturn, 1) := by decide +kernel
theorem d_m5_0 : decode method_5_code 0 = .ok (.iload_n 1, 1) := by decide +kernel
theorem d_m5_1 : decode method_5_code 1 = .ok (.invokestatic 52, 3) := by decide +kernel
theorem d_m5_4 : decode method_5_code 4 = .ok (.istore 5, 2) := by decide +kernel
theorem d_m5_6 : decode method_5_code 6 = .ok (.iload_n 2, 1) := by decide +kernel
theorem d_m5_7 : decode method_5_code 7 = .ok (.invokestatic 52, 3) := by decide +kernel
theorem d_m5_10 : decode method_5_code 10 = .ok (.istore 6, 2) := by decide +kernel
theorem d_m5_12 : decode method_5_code 12 = .ok (.iload_n 3, 1) := by decide +kernel
theorem d_m5_13 : decode method_5_code 13 = .ok (.invokestatic 52, 3) := by decide +kernel
theorem d_m5_16 : decode method_5_code 16 = .ok (.istore 7, 2) := by decide +kernel
theorem d_m5_18 : decode method_5_code 18 = .ok (.iload 4, 2) := by decide +kernel
theorem d_m5_20 : decode method_5_code 20 = .ok (.invokestatic 52, 3) := by decide +kernel
theorem d_m5_23 : decode method_5_code 23 = .ok (.istore 8, 2) := by decide +kernel
theorem d_m5_25 : decode method_5_code 25 = .ok (.iload_n 0, 1) := by decide +kernel
theorem d_m5_26 : decode method_5_code 26 = .ok (.ifCond .ne 393, 3) := by decide +kernel
theorem d_m5_29 : decode method_5_code 29 = .ok (.new 47, 3) := by decide +kernel
theorem d_m5_32 : decode method_5_code 32 = .ok (.dup, 1) := by decide +kernel
theorem d_m5_33 : decode method_5_code 33 = .ok (.bipush 64, 2) := by decide +kernel
theorem d_m5_35 : decode method_5_code 35 = .ok (.newarray .char, 2) := by decide +kernel
theorem d_m5_37 : decode method_5_code 37 = .ok (.dup, 1) := by decide +kernel
theorem d_m5_38 : decode method_5_code 38 = .ok (.iconst 0, 1) := by decide +kernel
theorem d_m5_39 : decode method_5_code 39 = .ok (.iload 5, 2) := by decide +kernel
theorem d_m5_41 : decode method_5_code 41 = .ok (.castore, 1) := by decide +kernel
theorem d_m5_42 : decode method_5_code 42 = .ok (.dup, 1) := by decide +kernel
theorem d_m5_43 : decode method_5_code 43 = .ok (.iconst 1, 1) := by decide +kernel
theorem d_m5_44 : decode method_5_code 44 = .ok (.iload 8, 2) := by decide +kernel
theorem d_m5_46 : decode method_5_code 46 = .ok (.castore, 1) := by decide +kernel
theorem d_m5_47 : decode method_5_code 47 = .ok (.dup, 1) := by decide +kernel
theorem d_m5_48 : decode method_5_code 48 = .ok (.iconst 2, 1) := by decide +kernel
theorem d_m5_49 : decode method_5_code 49 = .ok (.iload 8, 2) := by decide +kernel
theorem d_m5_51 : decode method_5_code 51 = .ok (.castore, 1) := by decide +kernel
theorem d_m5_52 : decode method_5_code 52 = .ok (.dup, 1) := by decide +kernel
theorem d_m5_53 : decode method_5_code 53 = .ok (.iconst 3, 1) := by decide +kernel
theorem d_m5_54 : decode method_5_code 54 = .ok (.iload 8, 2) := by decide +kernel
theorem d_m5_56 : decode method_5_code 56 = .ok (.castore, 1) := by decide +kernel
theorem d_m5_57 : decode method_5_code 57 = .ok (.dup, 1) := by decide +kernel
theorem d_m5_58 : decode method_5_code 58 = .ok (.iconst 4, 1) := by decide +kernel
theorem d_m5_59 : decode method_5_code 59 = .ok (.iload 8, 2) := by decide +kernel
theorem d_m5_61 : decode method_5_code 61 = .ok (.castore, 1) := by decide +kernel
theorem d_m5_62 : decode method_5_code 62 = .ok (.dup, 1) := by decide +kernel
theorem d_m5_63 : decode method_5_code 63 = .ok (.iconst 5, 1) := by decide +kernel
theorem d_m5_64 : decode method_5_code 64 = .ok (.iload 8, 2) := by decide +kernel
theorem d_m5_66 : decode method_5_code 66 = .ok (.castore, 1) := by decide +kernel
theorem d_m5_67 : decode method_5_code 67 = .ok (.dup, 1) := by decide +kernel
theorem d_m5_68 : decode method_5_code 68 = .ok (.bipush 6, 2) := by decide +kernel
theorem d_m5_70 : decode method_5_code 70 = .ok (.iload 8, 2) := by decide +kernel
theorem d_m5_72 : decode method_5_code 72 = .ok (.castore, 1) := by decide +kernel
theorem d_m5_73 : decode method_5_code 73 = .ok (.dup, 1) := by decide +kernel
theorem d_m5_74 : decode method_5_code 74 = .ok (.bipush 7, 2) := by decide +kernel
theorem d_m5_76 : decode method_5_code 76 = .ok (.iload 8, 2) := by decide +kernel
theorem d_m5_78 : decode method_5_code 78 = .ok (.castore, 1) := by decide +kernel
theorem d_m5_79 : decode method_5_code 79 = .ok (.dup, 1) := by decide +kernel
theorem d_m5_80 : decode method_5_code 80 = .ok (.bipush 8, 2) := by decide +kernel
theorem d_m5_82 : decode method_5_code 82 = .ok (.iload 8, 2) := by decide +kernel
theorem d_m5_84 : decode method_5_code 84 = .ok (.castore, 1) := by decide +kernel
theorem d_m5_85 : decode method_5_code 85 = .ok (.dup, 1) := by decide +kernel
theorem d_m5_86 : decode method_5_code 86 = .ok (.bipush 9, 2) := by decide +kernel
theorem d_m5_88 : decode method_5_code 88 = .ok (.iload 8, 2) := by decide +kernel
theorem d_m5_90 : decode method_5_code 90 = .ok (.castore, 1) := by decide +kernel
theorem d_m5_91 : decode method_5_code 91 = .ok (.dup, 1) := by decide +kernel
theorem d_m5_92 : decode method_5_code 92 = .ok (.bipush 10, 2) := by decide +kernel
theorem d_m5_94 : decode method_5_code 94 = .ok (.iload 8, 2) := by decide +kernel
theorem d_m5_96 : decode method_5_code 96 = .ok (.castore, 1) := by decide +kernel
theorem d_m5_97 : decode method_5_code 97 = .ok (.dup, 1) := by decide +kernel
theorem d_m5_98 : decode method_5_code 98 = .ok (.bipush 11, 2) := by decide +kernel
theorem d_m5_100 : decode method_5_code 100 = .ok (.iload 8, 2) := by decide +kernel
theorem d_m5_102 : decode method_5_code 102 = .ok (.castore, 1) := by decide +kernel
theorem d_m5_103 : decode method_5_code 103 = .ok (.dup, 1) := by decide +kernel
theorem d_m5_104 : decode method_5_code 104 = .ok (.bipush 12, 2) := by decide +kernel
theorem d_m5_106 : decode method_5_code 106 = .ok (.iload 8, 2) := by decide +kernel
theorem d_m5_108 : decode method_5_code 108 = .ok (.castore, 1) := by decide +kernel
theorem d_m5_109 : decode method_5_code 109 = .ok (.dup, 1) := by decide +kernel
theorem d_m5_110 : decode method_5_code 110 = .ok (.bipush 13, 2) := by decide +kernel
theorem d_m5_112 : decode method_5_code 112 = .ok (.iload 8, 2) := by decide +kernel
theorem d_m5_114 : decode method_5_code 114 = .ok (.castore, 1) := by decide +kernel
theorem d_m5_115 : decode method_5_code 115 = .ok (.dup, 1) := by decide +kernel
theorem d_m5_116 : decode method_5_code 116 = .ok (.bipush 14, 2) := by decide +kernel
theorem d_m5_118 : decode method_5_code 118 = .ok (.iload 8, 2) := by decide +kernel
theorem d_m5_120 : decode method_5_code 120 = .ok (.castore, 1) := by decide +kernel
theorem d_m5_121 : decode method_5_code 121 = .ok (.dup, 1) := by decide +kernel
theorem d_m5_122 : decode method_5_code 122 = .ok (.bipush 15, 2) := by decide +kernel
theorem d_m5_124 : decode method_5_code 124 = .ok (.iload 8, 2) := by decide +kernel
theorem d_m5_126 : decode method_5_code 126 = .ok (.castore, 1) := by decide +kernel
theorem d_m5_127 : decode method_5_code 127 = .ok (.dup, 1) := by decide +kernel
theorem d_m5_128 : decode method_5_code 128 = .ok (.bipush 16, 2) := by decide +kernel
theorem d_m5_130 : decode method_5_code 130 = .ok (.iload 8, 2) := by decide +kernel
theorem d_m5_132 : decode method_5_code 132 = .ok (.castore, 1) := by decide +kernel
theorem d_m5_133 : decode method_5_code 133 = .ok (.dup, 1) := by decide +kernel
theorem d_m5_134 : decode method_5_code 134 = .ok (.bipush 17, 2) := by decide +kernel
theorem d_m5_136 : decode method_5_code 136 = .ok (.iload 8, 2) := by decide +kernel
theorem d_m5_138 : decode method_5_code 138 = .ok (.castore, 1) := by decide +kernel
theorem d_m5_139 : decode method_5_code 139 = .ok (.dup, 1) := by decide +kernel
theorem d_m5_140 : decode method_5_code 140 = .ok (.bipush 18, 2) := by decide +kernel
theorem d_m5_142 : decode method_5_code 142 = .ok (.iload 8, 2) := by decide +kernel
theorem d_m5_144 : decode method_5_code 144 = .ok (.castore, 1) := by decide +kernel
theorem d_m5_145 : decode method_5_code 145 = .ok (.dup, 1) := by decide +kernel
theorem d_m5_146 : decode method_5_code 146 = .ok (.bipush 19, 2) := by decide +kernel
theorem d_m5_148 : decode method_5_code 148 = .ok (.iload 8, 2) := by decide +kernel
theorem d_m5_150 : decode method_5_code 150 = .ok (.castore, 1) := by decide +kernel
theorem d_m5_151 : decode method_5_code 151 = .ok (.dup, 1) := by decide +kernel
theorem d_m5_152 : decode method_5_code 152 = .ok (.bipush 20, 2) := by decide +kernel
theorem d_m5_154 : decode method_5_code 154 = .ok (.iload 8, 2) := by decide +kernel
theorem d_m5_156 : decode method_5_code 156 = .ok (.castore, 1) := by decide +kernel
theorem d_m5_157 : decode method_5_code 157 = .ok (.dup, 1) := by decide +kernel
theorem d_m5_158 : decode method_5_code 158 = .ok (.bipush 21, 2) := by decide +kernel
theorem d_m5_160 : decode method_5_code 160 = .ok (.iload 8, 2) := by decide +kernel
theorem d_m5_162 : decode method_5_code 162 = .ok (.castore, 1) := by decide +kernel
theorem d_m5_163 : decode method_5_code 163 = .ok (.dup, 1) := by decide +kernel
theorem d_m5_164 : decode method_5_code 164 = .ok (.bipush 22, 2) := by decide +kernel
theorem d_m5_166 : decode method_5_code 166 = .ok (.iload 8, 2) := by decide +kernel
theorem d_m5_168 : decode method_5_code 168 = .ok (.castore, 1) := by decide +kernel
theorem d_m5_169 : decode method_5_code 169 = .ok (.dup, 1) := by decide +kernel
theorem d_m5_170 : decode method_5_code 170 = .ok (.bipush 23, 2) := by decide +kernel
theorem d_m5_172 : decode method_5_code 172 = .ok (.iload 8, 2) := by decide +kernel
theorem d_m5_174 : decode method_5_code 174 = .ok (.castore, 1) := by decide +kernel
theorem d_m5_175 : decode method_5_code 175 = .ok (.dup, 1) := by decide +kernel
theorem d_m5_176 : decode method_5_code 176 = .ok (.bipush 24, 2) := by decide +kernel
theorem d_m5_178 : decode method_5_code 178 = .ok (.iload 8, 2) := by decide +kernel
theorem d_m5_180 : decode method_5_code 180 = .ok (.castore, 1) := by decide +kernel
theorem d_m5_181 : decode method_5_code 181 = .ok (.dup, 1) := by decide +kernel
theorem d_m5_182 : decode method_5_code 182 = .ok (.bipush 25, 2) := by decide +kernel
theorem d_m5_184 : decode method_5_code 184 = .ok (.iload 8, 2) := by decide +kernel
theorem d_m5_186 : decode method_5_code 186 = .ok (.castore, 1) := by decide +kernel
theorem d_m5_187 : decode method_5_code 187 = .ok (.dup, 1) := by decide +kernel
theorem d_m5_188 : decode method_5_code 188 = .ok (.bipush 26, 2) := by decide +kernel
theorem d_m5_190 : decode method_5_code 190 = .ok (.iload 8, 2) := by decide +kernel
theorem d_m5_192 : decode method_5_code 192 = .ok (.castore, 1) := by decide +kernel
theorem d_m5_193 : decode method_5_code 193 = .ok (.dup, 1) := by decide +kernel
theorem d_m5_194 : decode method_5_code 194 = .ok (.bipush 27, 2) := by decide +kernel
theorem d_m5_196 : decode method_5_code 196 = .ok (.iload 8, 2) := by decide +kernel
theorem d_m5_198 : decode method_5_code 198 = .ok (.castore, 1) := by decide +kernel
theorem d_m5_199 : decode method_5_code 199 = .ok (.dup, 1) := by decide +kernel
theorem d_m5_200 : decode method_5_code 200 = .ok (.bipush 28, 2) := by decide +kernel
theorem d_m5_202 : decode method_5_code 202 = .ok (.iload 8, 2) := by decide +kernel
theorem d_m5_204 : decode method_5_code 204 = .ok (.castore, 1) := by decide +kernel
theorem d_m5_205 : decode method_5_code 205 = .ok (.dup, 1) := by decide +kernel
theorem d_m5_206 : decode method_5_code 206 = .ok (.bipush 29, 2) := by decide +kernel
theorem d_m5_208 : decode method_5_code 208 = .ok (.iload 8, 2) := by decide +kernel
theorem d_m5_210 : decode method_5_code 210 = .ok (.castore, 1) := by decide +kernel
theorem d_m5_211 : decode method_5_code 211 = .ok (.dup, 1) := by decide +kernel
theorem d_m5_212 : decode method_5_code 212 = .ok (.bipush 30, 2) := by decide +kernel
theorem d_m5_214 : decode method_5_code 214 = .ok (.iload 8, 2) := by decide +kernel
theorem d_m5_216 : decode method_5_code 216 = .ok (.castore, 1) := by decide +kernel
theorem d_m5_217 : decode method_5_code 217 = .ok (.dup, 1) := by decide +kernel
theorem d_m5_218 : decode method_5_code 218 = .ok (.bipush 31, 2) := by decide +kernel
theorem d_m5_220 : decode method_5_code 220 = .ok (.iload 8, 2) := by decide +kernel
theorem d_m5_222 : decode method_5_code 222 = .ok (.castore, 1) := by decide +kernel
theorem d_m5_223 : decode method_5_code 223 = .ok (.dup, 1) := by decide +kernel
theorem d_m5_224 : decode method_5_code 224 = .ok (.bipush 32, 2) := by decide +kernel
theorem d_m5_226 : decode method_5_code 226 = .ok (.iload 6, 2) := by decide +kernel
theorem d_m5_228 : decode method_5_code 228 = .ok (.castore, 1) := by decide +kernel
theorem d_m5_229 : decode method_5_code 229 = .ok (.dup, 1) := by decide +kernel
theorem d_m5_230 : decode method_5_code 230 = .ok (.bipush 33, 2) := by decide +kernel
theorem d_m5_232 : decode method_5_code 232 = .ok (.iload 8, 2) := by decide +kernel
theorem d_m5_234 : decode method_5_code 234 = .ok (.castore, 1) := by decide +kernel
theorem d_m5_235 : decode method_5_code 235 = .ok (.dup, 1) := by decide +kernel
theorem d_m5_236 : decode method_5_code 236 = .ok (.bipush 34, 2) := by decide +kernel
theorem d_m5_238 : decode method_5_code 238 = .ok (.iload 8, 2) := by decide +kernel
theorem d_m5_240 : decode method_5_code 240 = .ok (.castore, 1) := by decide +kernel
theorem d_m5_241 : decode method_5_code 241 = .ok (.dup, 1) := by decide +kernel
theorem d_m5_242 : decode method_5_code 242 = .ok (.bipush 35, 2) := by decide +kernel
theorem d_m5_244 : decode method_5_code 244 = .ok (.iload 8, 2) := by decide +kernel
theorem d_m5_246 : decode method_5_code 246 = .ok (.castore, 1) := by decide +kernel
theorem d_m5_247 : decode method_5_code 247 = .ok (.dup, 1) := by decide +kernel
theorem d_m5_248 : decode method_5_code 248 = .ok (.bipush 36, 2) := by decide +kernel
theorem d_m5_250 : decode method_5_code 250 = .ok (.iload 8, 2) := by decide +kernel
theorem d_m5_252 : decode method_5_code 252 = .ok (.castore, 1) := by decide +kernel
theorem d_m5_253 : decode method_5_code 253 = .ok (.dup, 1) := by decide +kernel
theorem d_m5_254 : decode method_5_code 254 = .ok (.bipush 37, 2) := by decide +kernel
theorem d_m5_256 : decode method_5_code 256 = .ok (.iload 8, 2) := by decide +kernel
theorem d_m5_258 : decode method_5_code 258 = .ok (.castore, 1) := by decide +kernel
theorem d_m5_259 : decode method_5_code 259 = .ok (.dup, 1) := by decide +kernel
theorem d_m5_260 : decode method_5_code 260 = .ok (.bipush 38, 2) := by decide +kernel
theorem d_m5_262 : decode method_5_code 262 = .ok (.iload 8, 2) := by decide +kernel
theorem d_m5_264 : decode method_5_code 264 = .ok (.castore, 1) := by decide +kernel
theorem d_m5_265 : decode method_5_code 265 = .ok (.dup, 1) := by decide +kernel
theorem d_m5_266 : decode method_5_code 266 = .ok (.bipush 39, 2) := by decide +kernel
theorem d_m5_268 : decode method_5_code 268 = .ok (.iload 8, 2) := by decide +kernel
theorem d_m5_270 : decode method_5_code 270 = .ok (.castore, 1) := by decide +kernel
theorem d_m5_271 : decode method_5_code 271 = .ok (.dup, 1) := by decide +kernel
theorem d_m5_272 : decode method_5_code 272 = .ok (.bipush 40, 2) := by decide +kernel
theorem d_m5_274 : decode method_5_code 274 = .ok (.iload 8, 2) := by decide +kernel
theorem d_m5_276 : decode method_5_code 276 = .ok (.castore, 1) := by decide +kernel
theorem d_m5_277 : decode method_5_code 277 = .ok (.dup, 1) := by decide +kernel
theorem d_m5_278 : decode method_5_code 278 = .ok (.bipush 41, 2) := by decide +kernel
theorem d_m5_280 : decode method_5_code 280 = .ok (.iload 8, 2) := by decide +kernel
theorem d_m5_282 : decode method_5_code 282 = .ok (.castore, 1) := by decide +kernel
theorem d_m5_283 : decode method_5_code 283 = .ok (.dup, 1) := by decide +kernel
theorem d_m5_284 : decode method_5_code 284 = .ok (.bipush 42, 2) := by decide +kernel
theorem d_m5_286 : decode method_5_code 286 = .ok (.iload 8, 2) := by decide +kernel
theorem d_m5_288 : decode method_5_code 288 = .ok (.castore, 1) := by decide +kernel
theorem d_m5_289 : decode method_5_code 289 = .ok (.dup, 1) := by decide +kernel
theorem d_m5_290 : decode method_5_code 290 = .ok (.bipush 43, 2) := by decide +kernel
theorem d_m5_292 : decode method_5_code 292 = .ok (.iload 8, 2) := by decide +kernel
theorem d_m5_294 : decode method_5_code 294 = .ok (.castore, 1) := by decide +kernel
theorem d_m5_295 : decode method_5_code 295 = .ok (.dup, 1) := by decide +kernel
theorem d_m5_296 : decode method_5_code 296 = .ok (.bipush 44, 2) := by decide +kernel
theorem d_m5_298 : decode method_5_code 298 = .ok (.iload 8, 2) := by decide +kernel
theorem d_m5_300 : decode method_5_code 300 = .ok (.castore, 1) := by decide +kernel
theorem d_m5_301 : decode method_5_code 301 = .ok (.dup, 1) := by decide +kernel
theorem d_m5_302 : decode method_5_code 302 = .ok (.bipush 45, 2) := by decide +kernel
theorem d_m5_304 : decode method_5_code 304 = .ok (.iload 8, 2) := by decide +kernel
theorem d_m5_306 : decode method_5_code 306 = .ok (.castore, 1) := by decide +kernel
theorem d_m5_307 : decode method_5_code 307 = .ok (.dup, 1) := by decide +kernel
theorem d_m5_308 : decode method_5_code 308 = .ok (.bipush 46, 2) := by decide +kernel
theorem d_m5_310 : decode method_5_code 310 = .ok (.iload 8, 2) := by decide +kernel
theorem d_m5_312 : decode method_5_code 312 = .ok (.castore, 1) := by decide +kernel
theorem d_m5_313 : decode method_5_code 313 = .ok (.dup, 1) := by decide +kernel
theorem d_m5_314 : decode method_5_code 314 = .ok (.bipush 47, 2) := by decide +kernel
theorem d_m5_316 : decode method_5_code 316 = .ok (.iload 8, 2) := by decide +kernel
theorem d_m5_318 : decode method_5_code 318 = .ok (.castore, 1) := by decide +kernel
theorem d_m5_319 : decode method_5_code 319 = .ok (.dup, 1) := by decide +kernel
theorem d_m5_320 : decode method_5_code 320 = .ok (.bipush 48, 2) := by decide +kernel
theorem d_m5_322 : decode method_5_code 322 = .ok (.iload 8, 2) := by decide +kernel
theorem d_m5_324 : decode method_5_code 324 = .ok (.castore, 1) := by decide +kernel
theorem d_m5_325 : decode method_5_code 325 = .ok (.dup, 1) := by decide +kernel
theorem d_m5_326 : decode method_5_code 326 = .ok (.bipush 49, 2) := by decide +kernel
theorem d_m5_328 : decode method_5_code 328 = .ok (.iload 8, 2) := by decide +kernel
theorem d_m5_330 : decode method_5_code 330 = .ok (.castore, 1) := by decide +kernel
theorem d_m5_331 : decode method_5_code 331 = .ok (.dup, 1) := by decide +kernel
theorem d_m5_332 : decode method_5_code 332 = .ok (.bipush 50, 2) := by decide +kernel
theorem d_m5_334 : decode method_5_code 334 = .ok (.iload 8, 2) := by decide +kernel
theorem d_m5_336 : decode method_5_code 336 = .ok (.castore, 1) := by decide +kernel
theorem d_m5_337 : decode method_5_code 337 = .ok (.dup, 1) := by decide +kernel
theorem d_m5_338 : decode method_5_code 338 = .ok (.bipush 51, 2) := by decide +kernel
theorem d_m5_340 : decode method_5_code 340 = .ok (.iload 8, 2) := by decide +kernel
theorem d_m5_342 : decode method_5_code 342 = .ok (.castore, 1) := by decide +kernel
theorem d_m5_343 : decode method_5_code 343 = .ok (.dup, 1) := by decide +kernel
theorem d_m5_344 : decode method_5_code 344 = .ok (.bipush 52, 2) := by decide +kernel
theorem d_m5_346 : decode method_5_code 346 = .ok (.iload 8, 2) := by decide +kernel
theorem d_m5_348 : decode method_5_code 348 = .ok (.castore, 1) := by decide +kernel
theorem d_m5_349 : decode method_5_code 349 = .ok (.dup, 1) := by decide +kernel
theorem d_m5_350 : decode method_5_code 350 = .ok (.bipush 53, 2) := by decide +kernel
theorem d_m5_352 : decode method_5_code 352 = .ok (.iload 8, 2) := by decide +kernel
theorem d_m5_354 : decode method_5_code 354 = .ok (.castore, 1) := by decide +kernel
theorem d_m5_355 : decode method_5_code 355 = .ok (.dup, 1) := by decide +kernel
theorem d_m5_356 : decode method_5_code 356 = .ok (.bipush 54, 2) := by decide +kernel
theorem d_m5_358 : decode method_5_code 358 = .ok (.iload 8, 2) := by decide +kernel
theorem d_m5_360 : decode method_5_code 360 = .ok (.castore, 1) := by decide +kernel
theorem d_m5_361 : decode method_5_code 361 = .ok (.dup, 1) := by decide +kernel
theorem d_m5_362 : decode method_5_code 362 = .ok (.bipush 55, 2) := by decide +kernel
theorem d_m5_364 : decode method_5_code 364 = .ok (.iload 8, 2) := by decide +kernel
theorem d_m5_366 : decode method_5_code 366 = .ok (.castore, 1) := by decide +kernel
theorem d_m5_367 : decode method_5_code 367 = .ok (.dup, 1) := by decide +kernel
theorem d_m5_368 : decode method_5_code 368 = .ok (.bipush 56, 2) := by decide +kernel
theorem d_m5_370 : decode method_5_code 370 = .ok (.iload 8, 2) := by decide +kernel
theorem d_m5_372 : decode method_5_code 372 = .ok (.castore, 1) := by decide +kernel
theorem d_m5_373 : decode method_5_code 373 = .ok (.dup, 1) := by decide +kernel
theorem d_m5_374 : decode method_5_code 374 = .ok (.bipush 57, 2) := by decide +kernel
theorem d_m5_376 : decode method_5_code 376 = .ok (.iload 8, 2) := by decide +kernel
theorem d_m5_378 : decode method_5_code 378 = .ok (.castore, 1) := by decide +kernel
theorem d_m5_379 : decode method_5_code 379 = .ok (.dup, 1) := by decide +kernel
theorem d_m5_380 : decode method_5_code 380 = .ok (.bipush 58, 2) := by decide +kernel
theorem d_m5_382 : decode method_5_code 382 = .ok (.iload 8, 2) := by decide +kernel
theorem d_m5_384 : decode method_5_code 384 = .ok (.castore, 1) := by decide +kernel
theorem d_m5_385 : decode method_5_code 385 = .ok (.dup, 1) := by decide +kernel
theorem d_m5_386 : decode method_5_code 386 = .ok (.bipush 59, 2) := by decide +kernel
theorem d_m5_388 : decode method_5_code 388 = .ok (.iload 8, 2) := by decide +kernel
theorem d_m5_390 : decode method_5_code 390 = .ok (.castore, 1) := by decide +kernel
theorem d_m5_391 : decode method_5_code 391 = .ok (.dup, 1) := by decide +kernel
theorem d_m5_392 : decode method_5_code 392 = .ok (.bipush 60, 2) := by decide +kernel
theorem d_m5_394 : decode method_5_code 394 = .ok (.iload 8, 2) := by decide +kernel
theorem d_m5_396 : decode method_5_code 396 = .ok (.castore, 1) := by decide +kernel
theorem d_m5_397 : decode method_5_code 397 = .ok (.dup, 1) := by decide +kernel
theorem d_m5_398 : decode method_5_code 398 = .ok (.bipush 61, 2) := by decide +kernel
theorem d_m5_400 : decode method_5_code 400 = .ok (.iload 8, 2) := by decide +kernel
theorem d_m5_402 : decode method_5_code 402 = .ok (.castore, 1) := by decide +kernel
theorem d_m5_403 : decode method_5_code 403 = .ok (.dup, 1) := by decide +kernel
theorem d_m5_404 : decode method_5_code 404 = .ok (.bipush 62, 2) := by decide +kernel
theorem d_m5_406 : decode method_5_code 406 = .ok (.iload 8, 2) := by decide +kernel
theorem d_m5_408 : decode method_5_code 408 = .ok (.castore, 1) := by decide +kernel
theorem d_m5_409 : decode method_5_code 409 = .ok (.dup, 1) := by decide +kernel
theorem d_m5_410 : decode method_5_code 410 = .ok (.bipush 63, 2) := by decide +kernel
theorem d_m5_412 : decode method_5_code 412 = .ok (.iload 7, 2) := by decide +kernel
theorem d_m5_414 : decode method_5_code 414 = .ok (.castore, 1) := by decide +kernel
theorem d_m5_415 : decode method_5_code 415 = .ok (.invokespecial 55, 3) := by decide +kernel
theorem pd22 : parseMethodDescriptor "([C)V" = some ⟨[(.array .char)], none⟩ := by decide +kernel
theorem d_m5_418 : decode method_5_code 418 = .ok (.areturn, 1) := by decide +kernel
theorem d_m5_419 : decode method_5_code 419 = .ok (.iload_n 0, 1) := by decide +kernel
theorem d_m5_420 : decode method_5_code 420 = .ok (.iconst 1, 1) := by decide +kernel
theorem d_m5_421 : decode method_5_code 421 = .ok (.if_icmp .ne 249, 3) := by decide +kernel
theorem d_m5_424 : decode method_5_code 424 = .ok (.new 47, 3) := by decide +kernel
theorem d_m5_427 : decode method_5_code 427 = .ok (.dup, 1) := by decide +kernel
theorem d_m5_428 : decode method_5_code 428 = .ok (.bipush 40, 2) := by decide +kernel
theorem d_m5_430 : decode method_5_code 430 = .ok (.newarray .char, 2) := by decide +kernel
theorem d_m5_432 : decode method_5_code 432 = .ok (.dup, 1) := by decide +kernel
theorem d_m5_433 : decode method_5_code 433 = .ok (.iconst 0, 1) := by decide +kernel
theorem d_m5_434 : decode method_5_code 434 = .ok (.iload 5, 2) := by decide +kernel
theorem d_m5_436 : decode method_5_code 436 = .ok (.castore, 1) := by decide +kernel
theorem d_m5_437 : decode method_5_code 437 = .ok (.dup, 1) := by decide +kernel
theorem d_m5_438 : decode method_5_code 438 = .ok (.iconst 1, 1) := by decide +kernel
theorem d_m5_439 : decode method_5_code 439 = .ok (.iload 8, 2) := by decide +kernel
theorem d_m5_441 : decode method_5_code 441 = .ok (.castore, 1) := by decide +kernel
theorem d_m5_442 : decode method_5_code 442 = .ok (.dup, 1) := by decide +kernel
theorem d_m5_443 : decode method_5_code 443 = .ok (.iconst 2, 1) := by decide +kernel
theorem d_m5_444 : decode method_5_code 444 = .ok (.iload 8, 2) := by decide +kernel
theorem d_m5_446 : decode method_5_code 446 = .ok (.castore, 1) := by decide +kernel
theorem d_m5_447 : decode method_5_code 447 = .ok (.dup, 1) := by decide +kernel
theorem d_m5_448 : decode method_5_code 448 = .ok (.iconst 3, 1) := by decide +kernel
theorem d_m5_449 : decode method_5_code 449 = .ok (.iload 8, 2) := by decide +kernel
theorem d_m5_451 : decode method_5_code 451 = .ok (.castore, 1) := by decide +kernel
theorem d_m5_452 : decode method_5_code 452 = .ok (.dup, 1) := by decide +kernel
theorem d_m5_453 : decode method_5_code 453 = .ok (.iconst 4, 1) := by decide +kernel
theorem d_m5_454 : decode method_5_code 454 = .ok (.iload 8, 2) := by decide +kernel
theorem d_m5_456 : decode method_5_code 456 = .ok (.castore, 1) := by decide +kernel
theorem d_m5_457 : decode method_5_code 457 = .ok (.dup, 1) := by decide +kernel
theorem d_m5_458 : decode method_5_code 458 = .ok (.iconst 5, 1) := by decide +kernel
theorem d_m5_459 : decode method_5_code 459 = .ok (.iload 8, 2) := by decide +kernel
theorem d_m5_461 : decode method_5_code 461 = .ok (.castore, 1) := by decide +kernel
theorem d_m5_462 : decode method_5_code 462 = .ok (.dup, 1) := by decide +kernel
theorem d_m5_463 : decode method_5_code 463 = .ok (.bipush 6, 2) := by decide +kernel
theorem d_m5_465 : decode method_5_code 465 = .ok (.iload 8, 2) := by decide +kernel
theorem d_m5_467 : decode method_5_code 467 = .ok (.castore, 1) := by decide +kernel
theorem d_m5_468 : decode method_5_code 468 = .ok (.dup, 1) := by decide +kernel
theorem d_m5_469 : decode method_5_code 469 = .ok (.bipush 7, 2) := by decide +kernel
theorem d_m5_471 : decode method_5_code 471 = .ok (.iload 8, 2) := by decide +kernel
theorem d_m5_473 : decode method_5_code 473 = .ok (.castore, 1) := by decide +kernel
theorem d_m5_474 : decode method_5_code 474 = .ok (.dup, 1) := by decide +kernel
theorem d_m5_475 : decode method_5_code 475 = .ok (.bipush 8, 2) := by decide +kernel
theorem d_m5_477 : decode method_5_code 477 = .ok (.iload 8, 2) := by decide +kernel
theorem d_m5_479 : decode method_5_code 479 = .ok (.castore, 1) := by decide +kernel
theorem d_m5_480 : decode method_5_code 480 = .ok (.dup, 1) := by decide +kernel
theorem d_m5_481 : decode method_5_code 481 = .ok (.bipush 9, 2) := by decide +kernel
theorem d_m5_483 : decode method_5_code 483 = .ok (.iload 8, 2) := by decide +kernel
theorem d_m5_485 : decode method_5_code 485 = .ok (.castore, 1) := by decide +kernel
theorem d_m5_486 : decode method_5_code 486 = .ok (.dup, 1) := by decide +kernel
theorem d_m5_487 : decode method_5_code 487 = .ok (.bipush 10, 2) := by decide +kernel
theorem d_m5_489 : decode method_5_code 489 = .ok (.iload 8, 2) := by decide +kernel
theorem d_m5_491 : decode method_5_code 491 = .ok (.castore, 1) := by decide +kernel
theorem d_m5_492 : decode method_5_code 492 = .ok (.dup, 1) := by decide +kernel
theorem d_m5_493 : decode method_5_code 493 = .ok (.bipush 11, 2) := by decide +kernel
theorem d_m5_495 : decode method_5_code 495 = .ok (.iload 8, 2) := by decide +kernel
theorem d_m5_497 : decode method_5_code 497 = .ok (.castore, 1) := by decide +kernel
theorem d_m5_498 : decode method_5_code 498 = .ok (.dup, 1) := by decide +kernel
theorem d_m5_499 : decode method_5_code 499 = .ok (.bipush 12, 2) := by decide +kernel
theorem d_m5_501 : decode method_5_code 501 = .ok (.iload 8, 2) := by decide +kernel
theorem d_m5_503 : decode method_5_code 503 = .ok (.castore, 1) := by decide +kernel
theorem d_m5_504 : decode method_5_code 504 = .ok (.dup, 1) := by decide +kernel
theorem d_m5_505 : decode method_5_code 505 = .ok (.bipush 13, 2) := by decide +kernel
theorem d_m5_507 : decode method_5_code 507 = .ok (.iload 8, 2) := by decide +kernel
theorem d_m5_509 : decode method_5_code 509 = .ok (.castore, 1) := by decide +kernel
theorem d_m5_510 : decode method_5_code 510 = .ok (.dup, 1) := by decide +kernel
theorem d_m5_511 : decode method_5_code 511 = .ok (.bipush 14, 2) := by decide +kernel
theorem d_m5_513 : decode method_5_code 513 = .ok (.iload 8, 2) := by decide +kernel
theorem d_m5_515 : decode method_5_code 515 = .ok (.castore, 1) := by decide +kernel
theorem d_m5_516 : decode method_5_code 516 = .ok (.dup, 1) := by decide +kernel
theorem d_m5_517 : decode method_5_code 517 = .ok (.bipush 15, 2) := by decide +kernel
theorem d_m5_519 : decode method_5_code 519 = .ok (.iload 8, 2) := by decide +kernel
theorem d_m5_521 : decode method_5_code 521 = .ok (.castore, 1) := by decide +kernel
theorem d_m5_522 : decode method_5_code 522 = .ok (.dup, 1) := by decide +kernel
theorem d_m5_523 : decode method_5_code 523 = .ok (.bipush 16, 2) := by decide +kernel
theorem d_m5_525 : decode method_5_code 525 = .ok (.iload 8, 2) := by decide +kernel
theorem d_m5_527 : decode method_5_code 527 = .ok (.castore, 1) := by decide +kernel
theorem d_m5_528 : decode method_5_code 528 = .ok (.dup, 1) := by decide +kernel
theorem d_m5_529 : decode method_5_code 529 = .ok (.bipush 17, 2) := by decide +kernel
theorem d_m5_531 : decode method_5_code 531 = .ok (.iload 8, 2) := by decide +kernel
theorem d_m5_533 : decode method_5_code 533 = .ok (.castore, 1) := by decide +kernel
theorem d_m5_534 : decode method_5_code 534 = .ok (.dup, 1) := by decide +kernel
theorem d_m5_535 : decode method_5_code 535 = .ok (.bipush 18, 2) := by decide +kernel
theorem d_m5_537 : decode method_5_code 537 = .ok (.iload 8, 2) := by decide +kernel
theorem d_m5_539 : decode method_5_code 539 = .ok (.castore, 1) := by decide +kernel
theorem d_m5_540 : decode method_5_code 540 = .ok (.dup, 1) := by decide +kernel
theorem d_m5_541 : decode method_5_code 541 = .ok (.bipush 19, 2) := by decide +kernel
theorem d_m5_543 : decode method_5_code 543 = .ok (.iload 8, 2) := by decide +kernel
theorem d_m5_545 : decode method_5_code 545 = .ok (.castore, 1) := by decide +kernel
theorem d_m5_546 : decode method_5_code 546 = .ok (.dup, 1) := by decide +kernel
theorem d_m5_547 : decode method_5_code 547 = .ok (.bipush 20, 2) := by decide +kernel
theorem d_m5_549 : decode method_5_code 549 = .ok (.iload 6, 2) := by decide +kernel
theorem d_m5_551 : decode method_5_code 551 = .ok (.castore, 1) := by decide +kernel
theorem d_m5_552 : decode method_5_code 552 = .ok (.dup, 1) := by decide +kernel
theorem d_m5_553 : decode method_5_code 553 = .ok (.bipush 21, 2) := by decide +kernel
theorem d_m5_555 : decode method_5_code 555 = .ok (.iload 8, 2) := by decide +kernel
theorem d_m5_557 : decode method_5_code 557 = .ok (.castore, 1) := by decide +kernel
theorem d_m5_558 : decode method_5_code 558 = .ok (.dup, 1) := by decide +kernel
theorem d_m5_559 : decode method_5_code 559 = .ok (.bipush 22, 2) := by decide +kernel
theorem d_m5_561 : decode method_5_code 561 = .ok (.iload 8, 2) := by decide +kernel
theorem d_m5_563 : decode method_5_code 563 = .ok (.castore, 1) := by decide +kernel
theorem d_m5_564 : decode method_5_code 564 = .ok (.dup, 1) := by decide +kernel
theorem d_m5_565 : decode method_5_code 565 = .ok (.bipush 23, 2) := by decide +kernel
theorem d_m5_567 : decode method_5_code 567 = .ok (.iload 8, 2) := by decide +kernel
theorem d_m5_569 : decode method_5_code 569 = .ok (.castore, 1) := by decide +kernel
theorem d_m5_570 : decode method_5_code 570 = .ok (.dup, 1) := by decide +kernel
theorem d_m5_571 : decode method_5_code 571 = .ok (.bipush 24, 2) := by decide +kernel
theorem d_m5_573 : decode method_5_code 573 = .ok (.iload 8, 2) := by decide +kernel
theorem d_m5_575 : decode method_5_code 575 = .ok (.castore, 1) := by decide +kernel
theorem d_m5_576 : decode method_5_code 576 = .ok (.dup, 1) := by decide +kernel
theorem d_m5_577 : decode method_5_code 577 = .ok (.bipush 25, 2) := by decide +kernel
theorem d_m5_579 : decode method_5_code 579 = .ok (.iload 8, 2) := by decide +kernel
theorem d_m5_581 : decode method_5_code 581 = .ok (.castore, 1) := by decide +kernel
theorem d_m5_582 : decode method_5_code 582 = .ok (.dup, 1) := by decide +kernel
theorem d_m5_583 : decode method_5_code 583 = .ok (.bipush 26, 2) := by decide +kernel
theorem d_m5_585 : decode method_5_code 585 = .ok (.iload 8, 2) := by decide +kernel
theorem d_m5_587 : decode method_5_code 587 = .ok (.castore, 1) := by decide +kernel
theorem d_m5_588 : decode method_5_code 588 = .ok (.dup, 1) := by decide +kernel
theorem d_m5_589 : decode method_5_code 589 = .ok (.bipush 27, 2) := by decide +kernel
theorem d_m5_591 : decode method_5_code 591 = .ok (.iload 8, 2) := by decide +kernel
theorem d_m5_593 : decode method_5_code 593 = .ok (.castore, 1) := by decide +kernel
theorem d_m5_594 : decode method_5_code 594 = .ok (.dup, 1) := by decide +kernel
theorem d_m5_595 : decode method_5_code 595 = .ok (.bipush 28, 2) := by decide +kernel
theorem d_m5_597 : decode method_5_code 597 = .ok (.iload 8, 2) := by decide +kernel
theorem d_m5_599 : decode method_5_code 599 = .ok (.castore, 1) := by decide +kernel
theorem d_m5_600 : decode method_5_code 600 = .ok (.dup, 1) := by decide +kernel
theorem d_m5_601 : decode method_5_code 601 = .ok (.bipush 29, 2) := by decide +kernel
theorem d_m5_603 : decode method_5_code 603 = .ok (.iload 8, 2) := by decide +kernel
theorem d_m5_605 : decode method_5_code 605 = .ok (.castore, 1) := by decide +kernel
theorem d_m5_606 : decode method_5_code 606 = .ok (.dup, 1) := by decide +kernel
theorem d_m5_607 : decode method_5_code 607 = .ok (.bipush 30, 2) := by decide +kernel
theorem d_m5_609 : decode method_5_code 609 = .ok (.iload 8, 2) := by decide +kernel
theorem d_m5_611 : decode method_5_code 611 = .ok (.castore, 1) := by decide +kernel
theorem d_m5_612 : decode method_5_code 612 = .ok (.dup, 1) := by decide +kernel
theorem d_m5_613 : decode method_5_code 613 = .ok (.bipush 31, 2) := by decide +kernel
theorem d_m5_615 : decode method_5_code 615 = .ok (.iload 8, 2) := by decide +kernel
theorem d_m5_617 : decode method_5_code 617 = .ok (.castore, 1) := by decide +kernel
theorem d_m5_618 : decode method_5_code 618 = .ok (.dup, 1) := by decide +kernel
theorem d_m5_619 : decode method_5_code 619 = .ok (.bipush 32, 2) := by decide +kernel
theorem d_m5_621 : decode method_5_code 621 = .ok (.iload 8, 2) := by decide +kernel
theorem d_m5_623 : decode method_5_code 623 = .ok (.castore, 1) := by decide +kernel
theorem d_m5_624 : decode method_5_code 624 = .ok (.dup, 1) := by decide +kernel
theorem d_m5_625 : decode method_5_code 625 = .ok (.bipush 33, 2) := by decide +kernel
theorem d_m5_627 : decode method_5_code 627 = .ok (.iload 8, 2) := by decide +kernel
theorem d_m5_629 : decode method_5_code 629 = .ok (.castore, 1) := by decide +kernel
theorem d_m5_630 : decode method_5_code 630 = .ok (.dup, 1) := by decide +kernel
theorem d_m5_631 : decode method_5_code 631 = .ok (.bipush 34, 2) := by decide +kernel
theorem d_m5_633 : decode method_5_code 633 = .ok (.iload 8, 2) := by decide +kernel
theorem d_m5_635 : decode method_5_code 635 = .ok (.castore, 1) := by decide +kernel
theorem d_m5_636 : decode method_5_code 636 = .ok (.dup, 1) := by decide +kernel
theorem d_m5_637 : decode method_5_code 637 = .ok (.bipush 35, 2) := by decide +kernel
theorem d_m5_639 : decode method_5_code 639 = .ok (.iload 8, 2) := by decide +kernel
theorem d_m5_641 : decode method_5_code 641 = .ok (.castore, 1) := by decide +kernel
theorem d_m5_642 : decode method_5_code 642 = .ok (.dup, 1) := by decide +kernel
theorem d_m5_643 : decode method_5_code 643 = .ok (.bipush 36, 2) := by decide +kernel
theorem d_m5_645 : decode method_5_code 645 = .ok (.iload 8, 2) := by decide +kernel
theorem d_m5_647 : decode method_5_code 647 = .ok (.castore, 1) := by decide +kernel
theorem d_m5_648 : decode method_5_code 648 = .ok (.dup, 1) := by decide +kernel
theorem d_m5_649 : decode method_5_code 649 = .ok (.bipush 37, 2) := by decide +kernel
theorem d_m5_651 : decode method_5_code 651 = .ok (.iload 8, 2) := by decide +kernel
theorem d_m5_653 : decode method_5_code 653 = .ok (.castore, 1) := by decide +kernel
theorem d_m5_654 : decode method_5_code 654 = .ok (.dup, 1) := by decide +kernel
theorem d_m5_655 : decode method_5_code 655 = .ok (.bipush 38, 2) := by decide +kernel
theorem d_m5_657 : decode method_5_code 657 = .ok (.iload 8, 2) := by decide +kernel
theorem d_m5_659 : decode method_5_code 659 = .ok (.castore, 1) := by decide +kernel
theorem d_m5_660 : decode method_5_code 660 = .ok (.dup, 1) := by decide +kernel
theorem d_m5_661 : decode method_5_code 661 = .ok (.bipush 39, 2) := by decide +kernel
theorem d_m5_663 : decode method_5_code 663 = .ok (.iload 7, 2) := by decide +kernel
theorem d_m5_665 : decode method_5_code 665 = .ok (.castore, 1) := by decide +kernel
theorem d_m5_666 : decode method_5_code 666 = .ok (.invokespecial 55, 3) := by decide +kernel
theorem d_m5_669 : decode method_5_code 669 = .ok (.areturn, 1) := by decide +kernel
theorem d_m5_670 : decode method_5_code 670 = .ok (.new 47, 3) := by decide +kernel
theorem d_m5_673 : decode method_5_code 673 = .ok (.dup, 1) := by decide +kernel
theorem d_m5_674 : decode method_5_code 674 = .ok (.bipush 32, 2) := by decide +kernel
theorem d_m5_676 : decode method_5_code 676 = .ok (.newarray .char, 2) := by decide +kernel
theorem d_m5_678 : decode method_5_code 678 = .ok (.dup, 1) := by decide +kernel
theorem d_m5_679 : decode method_5_code 679 = .ok (.iconst 0, 1) := by decide +kernel
theorem d_m5_680 : decode method_5_code 680 = .ok (.iload 5, 2) := by decide +kernel
theorem d_m5_682 : decode method_5_code 682 = .ok (.castore, 1) := by decide +kernel
theorem d_m5_683 : decode method_5_code 683 = .ok (.dup, 1) := by decide +kernel
theorem d_m5_684 : decode method_5_code 684 = .ok (.iconst 1, 1) := by decide +kernel
theorem d_m5_685 : decode method_5_code 685 = .ok (.iload 8, 2) := by decide +kernel
theorem d_m5_687 : decode method_5_code 687 = .ok (.castore, 1) := by decide +kernel
theorem d_m5_688 : decode method_5_code 688 = .ok (.dup, 1) := by decide +kernel
theorem d_m5_689 : decode method_5_code 689 = .ok (.iconst 2, 1) := by decide +kernel
theorem d_m5_690 : decode method_5_code 690 = .ok (.iload 8, 2) := by decide +kernel
theorem d_m5_692 : decode method_5_code 692 = .ok (.castore, 1) := by decide +kernel
theorem d_m5_693 : decode method_5_code 693 = .ok (.dup, 1) := by decide +kernel
theorem d_m5_694 : decode method_5_code 694 = .ok (.iconst 3, 1) := by decide +kernel
theorem d_m5_695 : decode method_5_code 695 = .ok (.iload 8, 2) := by decide +kernel
theorem d_m5_697 : decode method_5_code 697 = .ok (.castore, 1) := by decide +kernel
theorem d_m5_698 : decode method_5_code 698 = .ok (.dup, 1) := by decide +kernel
theorem d_m5_699 : decode method_5_code 699 = .ok (.iconst 4, 1) := by decide +kernel
theorem d_m5_700 : decode method_5_code 700 = .ok (.iload 8, 2) := by decide +kernel
theorem d_m5_702 : decode method_5_code 702 = .ok (.castore, 1) := by decide +kernel
theorem d_m5_703 : decode method_5_code 703 = .ok (.dup, 1) := by decide +kernel
theorem d_m5_704 : decode method_5_code 704 = .ok (.iconst 5, 1) := by decide +kernel
theorem d_m5_705 : decode method_5_code 705 = .ok (.iload 8, 2) := by decide +kernel
theorem d_m5_707 : decode method_5_code 707 = .ok (.castore, 1) := by decide +kernel
theorem d_m5_708 : decode method_5_code 708 = .ok (.dup, 1) := by decide +kernel
theorem d_m5_709 : decode method_5_code 709 = .ok (.bipush 6, 2) := by decide +kernel
theorem d_m5_711 : decode method_5_code 711 = .ok (.iload 8, 2) := by decide +kernel
theorem d_m5_713 : decode method_5_code 713 = .ok (.castore, 1) := by decide +kernel
theorem d_m5_714 : decode method_5_code 714 = .ok (.dup, 1) := by decide +kernel
theorem d_m5_715 : decode method_5_code 715 = .ok (.bipush 7, 2) := by decide +kernel
theorem d_m5_717 : decode method_5_code 717 = .ok (.iload 8, 2) := by decide +kernel
theorem d_m5_719 : decode method_5_code 719 = .ok (.castore, 1) := by decide +kernel
theorem d_m5_720 : decode method_5_code 720 = .ok (.dup, 1) := by decide +kernel
theorem d_m5_721 : decode method_5_code 721 = .ok (.bipush 8, 2) := by decide +kernel
theorem d_m5_723 : decode method_5_code 723 = .ok (.iload 8, 2) := by decide +kernel
theorem d_m5_725 : decode method_5_code 725 = .ok (.castore, 1) := by decide +kernel
theorem d_m5_726 : decode method_5_code 726 = .ok (.dup, 1) := by decide +kernel
theorem d_m5_727 : decode method_5_code 727 = .ok (.bipush 9, 2) := by decide +kernel
theorem d_m5_729 : decode method_5_code 729 = .ok (.iload 8, 2) := by decide +kernel
theorem d_m5_731 : decode method_5_code 731 = .ok (.castore, 1) := by decide +kernel
theorem d_m5_732 : decode method_5_code 732 = .ok (.dup, 1) := by decide +kernel
theorem d_m5_733 : decode method_5_code 733 = .ok (.bipush 10, 2) := by decide +kernel
theorem d_m5_735 : decode method_5_code 735 = .ok (.iload 8, 2) := by decide +kernel
theorem d_m5_737 : decode method_5_code 737 = .ok (.castore, 1) := by decide +kernel
theorem d_m5_738 : decode method_5_code 738 = .ok (.dup, 1) := by decide +kernel
theorem d_m5_739 : decode method_5_code 739 = .ok (.bipush 11, 2) := by decide +kernel
theorem d_m5_741 : decode method_5_code 741 = .ok (.iload 8, 2) := by decide +kernel
theorem d_m5_743 : decode method_5_code 743 = .ok (.castore, 1) := by decide +kernel
theorem d_m5_744 : decode method_5_code 744 = .ok (.dup, 1) := by decide +kernel
theorem d_m5_745 : decode method_5_code 745 = .ok (.bipush 12, 2) := by decide +kernel
theorem d_m5_747 : decode method_5_code 747 = .ok (.iload 8, 2) := by decide +kernel
theorem d_m5_749 : decode method_5_code 749 = .ok (.castore, 1) := by decide +kernel
theorem d_m5_750 : decode method_5_code 750 = .ok (.dup, 1) := by decide +kernel
theorem d_m5_751 : decode method_5_code 751 = .ok (.bipush 13, 2) := by decide +kernel
theorem d_m5_753 : decode method_5_code 753 = .ok (.iload 8, 2) := by decide +kernel
theorem d_m5_755 : decode method_5_code 755 = .ok (.castore, 1) := by decide +kernel
theorem d_m5_756 : decode method_5_code 756 = .ok (.dup, 1) := by decide +kernel
theorem d_m5_757 : decode method_5_code 757 = .ok (.bipush 14, 2) := by decide +kernel
theorem d_m5_759 : decode method_5_code 759 = .ok (.iload 8, 2) := by decide +kernel
theorem d_m5_761 : decode method_5_code 761 = .ok (.castore, 1) := by decide +kernel
theorem d_m5_762 : decode method_5_code 762 = .ok (.dup, 1) := by decide +kernel
theorem d_m5_763 : decode method_5_code 763 = .ok (.bipush 15, 2) := by decide +kernel
theorem d_m5_765 : decode method_5_code 765 = .ok (.iload 8, 2) := by decide +kernel
theorem d_m5_767 : decode method_5_code 767 = .ok (.castore, 1) := by decide +kernel
theorem d_m5_768 : decode method_5_code 768 = .ok (.dup, 1) := by decide +kernel
theorem d_m5_769 : decode method_5_code 769 = .ok (.bipush 16, 2) := by decide +kernel
theorem d_m5_771 : decode method_5_code 771 = .ok (.iload 6, 2) := by decide +kernel
theorem d_m5_773 : decode method_5_code 773 = .ok (.castore, 1) := by decide +kernel
theorem d_m5_774 : decode method_5_code 774 = .ok (.dup, 1) := by decide +kernel
theorem d_m5_775 : decode method_5_code 775 = .ok (.bipush 17, 2) := by decide +kernel
theorem d_m5_777 : decode method_5_code 777 = .ok (.iload 8, 2) := by decide +kernel
theorem d_m5_779 : decode method_5_code 779 = .ok (.castore, 1) := by decide +kernel
theorem d_m5_780 : decode method_5_code 780 = .ok (.dup, 1) := by decide +kernel
theorem d_m5_781 : decode method_5_code 781 = .ok (.bipush 18, 2) := by decide +kernel
theorem d_m5_783 : decode method_5_code 783 = .ok (.iload 8, 2) := by decide +kernel
theorem d_m5_785 : decode method_5_code 785 = .ok (.castore, 1) := by decide +kernel
theorem d_m5_786 : decode method_5_code 786 = .ok (.dup, 1) := by decide +kernel
theorem d_m5_787 : decode method_5_code 787 = .ok (.bipush 19, 2) := by decide +kernel
theorem d_m5_789 : decode method_5_code 789 = .ok (.iload 8, 2) := by decide +kernel
theorem d_m5_791 : decode method_5_code 791 = .ok (.castore, 1) := by decide +kernel
theorem d_m5_792 : decode method_5_code 792 = .ok (.dup, 1) := by decide +kernel
theorem d_m5_793 : decode method_5_code 793 = .ok (.bipush 20, 2) := by decide +kernel
theorem d_m5_795 : decode method_5_code 795 = .ok (.iload 8, 2) := by decide +kernel
theorem d_m5_797 : decode method_5_code 797 = .ok (.castore, 1) := by decide +kernel
theorem d_m5_798 : decode method_5_code 798 = .ok (.dup, 1) := by decide +kernel
theorem d_m5_799 : decode method_5_code 799 = .ok (.bipush 21, 2) := by decide +kernel
theorem d_m5_801 : decode method_5_code 801 = .ok (.iload 8, 2) := by decide +kernel
theorem d_m5_803 : decode method_5_code 803 = .ok (.castore, 1) := by decide +kernel
theorem d_m5_804 : decode method_5_code 804 = .ok (.dup, 1) := by decide +kernel
theorem d_m5_805 : decode method_5_code 805 = .ok (.bipush 22, 2) := by decide +kernel
theorem d_m5_807 : decode method_5_code 807 = .ok (.iload 8, 2) := by decide +kernel
theorem d_m5_809 : decode method_5_code 809 = .ok (.castore, 1) := by decide +kernel
theorem d_m5_810 : decode method_5_code 810 = .ok (.dup, 1) := by decide +kernel
theorem d_m5_811 : decode method_5_code 811 = .ok (.bipush 23, 2) := by decide +kernel
theorem d_m5_813 : decode method_5_code 813 = .ok (.iload 8, 2) := by decide +kernel
theorem d_m5_815 : decode method_5_code 815 = .ok (.castore, 1) := by decide +kernel
theorem d_m5_816 : decode method_5_code 816 = .ok (.dup, 1) := by decide +kernel
theorem d_m5_817 : decode method_5_code 817 = .ok (.bipush 24, 2) := by decide +kernel
theorem d_m5_819 : decode method_5_code 819 = .ok (.iload 8, 2) := by decide +kernel
theorem d_m5_821 : decode method_5_code 821 = .ok (.castore, 1) := by decide +kernel
theorem d_m5_822 : decode method_5_code 822 = .ok (.dup, 1) := by decide +kernel
theorem d_m5_823 : decode method_5_code 823 = .ok (.bipush 25, 2) := by decide +kernel
theorem d_m5_825 : decode method_5_code 825 = .ok (.iload 8, 2) := by decide +kernel
theorem d_m5_827 : decode method_5_code 827 = .ok (.castore, 1) := by decide +kernel
theorem d_m5_828 : decode method_5_code 828 = .ok (.dup, 1) := by decide +kernel
theorem d_m5_829 : decode method_5_code 829 = .ok (.bipush 26, 2) := by decide +kernel
theorem d_m5_831 : decode method_5_code 831 = .ok (.iload 8, 2) := by decide +kernel
theorem d_m5_833 : decode method_5_code 833 = .ok (.castore, 1) := by decide +kernel
theorem d_m5_834 : decode method_5_code 834 = .ok (.dup, 1) := by decide +kernel
theorem d_m5_835 : decode method_5_code 835 = .ok (.bipush 27, 2) := by decide +kernel
theorem d_m5_837 : decode method_5_code 837 = .ok (.iload 8, 2) := by decide +kernel
theorem d_m5_839 : decode method_5_code 839 = .ok (.castore, 1) := by decide +kernel
theorem d_m5_840 : decode method_5_code 840 = .ok (.dup, 1) := by decide +kernel
theorem d_m5_841 : decode method_5_code 841 = .ok (.bipush 28, 2) := by decide +kernel
theorem d_m5_843 : decode method_5_code 843 = .ok (.iload 8, 2) := by decide +kernel
theorem d_m5_845 : decode method_5_code 845 = .ok (.castore, 1) := by decide +kernel
theorem d_m5_846 : decode method_5_code 846 = .ok (.dup, 1) := by decide +kernel
theorem d_m5_847 : decode method_5_code 847 = .ok (.bipush 29, 2) := by decide +kernel
theorem d_m5_849 : decode method_5_code 849 = .ok (.iload 8, 2) := by decide +kernel
theorem d_m5_851 : decode method_5_code 851 = .ok (.castore, 1) := by decide +kernel
theorem d_m5_852 : decode method_5_code 852 = .ok (.dup, 1) := by decide +kernel
theorem d_m5_853 : decode method_5_code 853 = .ok (.bipush 30, 2) := by decide +kernel
theorem d_m5_855 : decode method_5_code 855 = .ok (.iload 8, 2) := by decide +kernel
theorem d_m5_857 : decode method_5_code 857 = .ok (.castore, 1) := by decide +kernel
theorem d_m5_858 : decode method_5_code 858 = .ok (.dup, 1) := by decide +kernel
theorem d_m5_859 : decode method_5_code 859 = .ok (.bipush 31, 2) := by decide +kernel
theorem d_m5_861 : decode method_5_code 861 = .ok (.iload 7, 2) := by decide +kernel
theorem d_m5_863 : decode method_5_code 863 = .ok (.castore, 1) := by decide +kernel
theorem d_m5_864 : decode method_5_code 864 = .ok (.invokespecial 55, 3) := by decide +kernel
theorem d_m5_867 : decode method_5_code 867 = .ok (.areturn, 1) := by decide +kernel
theorem d_prog_21_m1_0 : decode prog_21_method_1_code 0 = .ok (.aload_n 0, 1) := by decide +kernel
theorem d_prog_21_m1_1 : decode prog_21_method_1_code 1 = .ok (.invokespecial 1, 3) := by decide +kernel
theorem d_prog_21_m1_4 : decode prog_21_method_1_code 4 = .ok (.aload_n 1, 1) := by decide +kernel
theorem d_prog_21_m1_5 : decode prog_21_method_1_code 5 = .ok (.aload_n 2, 1) := by decide +kernel
theorem d_prog_21_m1_6 : decode prog_21_method_1_code 6 = .ok (.invokevirtual 7, 3) := by decide +kernel
theorem d_prog_21_m1_9 : decode prog_21_method_1_code 9 = .ok (.ifCond .ne 20, 3) := by decide +kernel
theorem d_prog_21_m1_29 : decode prog_21_method_1_code 29 = .ok (.aload_n 0, 1) := by decide +kernel
theorem d_prog_21_m1_30 : decode prog_21_method_1_code 30 = .ok (.aload_n 1, 1) := by decide +kernel
theorem d_prog_21_m1_31 : decode prog_21_method_1_code 31 = .ok (.putfield 28, 3) := by decide +kernel
theorem d_prog_21_m1_34 : decode prog_21_method_1_code 34 = .ok (.aload_n 0, 1) := by decide +kernel
theorem d_prog_21_m1_35 : decode prog_21_method_1_code 35 = .ok (.aload_n 2, 1) := by decide +kernel
theorem d_prog_21_m1_36 : decode prog_21_method_1_code 36 = .ok (.putfield 34, 3) := by decide +kernel
theorem d_prog_21_m1_39 : decode prog_21_method_1_code 39 = .ok (.return_, 1) := by decide +kernel
theorem pn23 : plainName "com/example/campo_grande/campogrande/PayloadDigest" = true := by first | (simp [plainName, overriddenIn]; done) | decide +kernel
theorem d_prog_13_m6_0 : decode prog_13_method_6_code 0 = .ok (.aload_n 0, 1) := by decide +kernel
theorem d_prog_13_m6_1 : decode prog_13_method_6_code 1 = .ok (.getfield 51, 3) := by decide +kernel
theorem d_prog_13_m6_4 : decode prog_13_method_6_code 4 = .ok (.areturn, 1) := by decide +kernel
theorem d_prog_13_m7_0 : decode prog_13_method_7_code 0 = .ok (.aload_n 0, 1) := by decide +kernel
theorem d_prog_13_m7_1 : decode prog_13_method_7_code 1 = .ok (.getfield 54, 3) := by decide +kernel
theorem d_prog_13_m7_4 : decode prog_13_method_7_code 4 = .ok (.areturn, 1) := by decide +kernel
theorem d_prog_21_m4_0 : decode prog_21_method_4_code 0 = .ok (.aload_n 1, 1) := by decide +kernel
theorem d_prog_21_m4_1 : decode prog_21_method_4_code 1 = .ok (.invokevirtual 98, 3) := by decide +kernel
theorem pd24 : parseMethodDescriptor "()Lcom/example/campo_grande/campogrande/SignatureAlgorithm;" = some ⟨[], some (.object "com/example/campo_grande/campogrande/SignatureAlgorithm")⟩ := by decide +kernel
theorem d_prog_21_m4_4 : decode prog_21_method_4_code 4 = .ok (.aload_n 0, 1) := by decide +kernel
theorem d_prog_21_m4_5 : decode prog_21_method_4_code 5 = .ok (.getfield 28, 3) := by decide +kernel
theorem d_prog_21_m4_8 : decode prog_21_method_4_code 8 = .ok (.if_acmp .ne 21, 3) := by decide +kernel
theorem d_prog_21_m4_11 : decode prog_21_method_4_code 11 = .ok (.aload_n 1, 1) := by decide +kernel
theorem d_prog_21_m4_12 : decode prog_21_method_4_code 12 = .ok (.invokevirtual 104, 3) := by decide +kernel
theorem pd25 : parseMethodDescriptor "()Ljava/lang/String;" = some ⟨[], some (.object "java/lang/String")⟩ := by decide +kernel
theorem d_prog_21_m4_15 : decode prog_21_method_4_code 15 = .ok (.aload_n 0, 1) := by decide +kernel
theorem d_prog_21_m4_16 : decode prog_21_method_4_code 16 = .ok (.getfield 34, 3) := by decide +kernel
theorem d_prog_21_m4_19 : decode prog_21_method_4_code 19 = .ok (.invokevirtual 107, 3) := by decide +kernel
theorem pd26 : parseMethodDescriptor "(Ljava/lang/Object;)Z" = some ⟨[(.object "java/lang/Object")], some .boolean⟩ := by decide +kernel
theorem d_prog_21_m4_22 : decode prog_21_method_4_code 22 = .ok (.ifCond .eq 7, 3) := by decide +kernel
theorem d_prog_21_m4_29 : decode prog_21_method_4_code 29 = .ok (.iconst 0, 1) := by decide +kernel
theorem d_prog_21_m4_30 : decode prog_21_method_4_code 30 = .ok (.ireturn, 1) := by decide +kernel
theorem d_prog_21_m4_25 : decode prog_21_method_4_code 25 = .ok (.iconst 1, 1) := by decide +kernel
theorem d_prog_21_m4_26 : decode prog_21_method_4_code 26 = .ok (.goto 4, 3) := by decide +kernel
theorem pd27 : parseMethodDescriptor "(I)Lcom/example/campo_grande/campogrande/SignatureAlgorithm;" = some ⟨[.int], some (.object "com/example/campo_grande/campogrande/SignatureAlgorithm")⟩ := by decide +kernel
theorem pd28 : parseMethodDescriptor "(IIIII)Ljava/lang/String;" = some ⟨[.int, .int, .int, .int, .int], some (.object "java/lang/String")⟩ := by decide +kernel
theorem pd29 : parseMethodDescriptor "(ILcom/example/campo_grande/campogrande/SignatureAlgorithm;Ljava/lang/String;I)V" = some ⟨[.int, (.object "com/example/campo_grande/campogrande/SignatureAlgorithm"), (.object "java/lang/String"), .int], none⟩ := by decide +kernel
theorem pd30 : parseMethodDescriptor "(Lcom/example/campo_grande/campogrande/SignatureAlgorithm;Ljava/lang/String;)V" = some ⟨[(.object "com/example/campo_grande/campogrande/SignatureAlgorithm"), (.object "java/lang/String")], none⟩ := by decide +kernel
theorem pd31 : parseMethodDescriptor "(Lcom/example/campo_grande/campogrande/ContentKey;)Z" = some ⟨[(.object "com/example/campo_grande/campogrande/ContentKey")], some .boolean⟩ := by decide +kernel

theorem lat0 : Lat [] := fun _ q => nomatch q
theorem latS {c : Int32} {cs : List Int32} (h : 0 ≤ c.toInt ∧ c.toInt ≤ 255) (L : Lat cs) : Lat (c :: cs) := fun x q => (List.mem_cons.mp q).elim (fun z => z ▸ h) (L x)
theorem m255 (x : Int32) : 0 ≤ (x &&& (255 : Int32)).toInt ∧ (x &&& (255 : Int32)).toInt ≤ 255 := c_and x 255 (by decide)
theorem t32s (i : Nat) : i.toInt32 + 1 = (i + 1).toInt32 := by
  show Int32.ofNat i + 1 = Int32.ofNat (i + 1)
  rw [Int32.ofNat_add]; rfl
theorem lo8_lo8 (x : Int32) : nar .byte x.toInt8.toInt32 = x.toInt8.toInt32 := by simp [nar]
theorem ge255 {cs : List Int32} (L : Lat cs) {i : Nat} (hi : i < cs.length) : ¬ (255 : Int32) < cs[i] := by
  have := (L _ (List.getElem_mem hi)).2
  rw [Int32.lt_iff_toInt_lt]; have e : (255 : Int32).toInt = 255 := rfl; omega
theorem cmp_set {cs : List Int32} {vs : List Value} {i : Nat} (hi : i < cs.length) (hv : vs.length = cs.length) : (by8 (cs.take i) ++ vs.drop i).set i (.int cs[i].toInt8.toInt32) = by8 (cs.take (i + 1)) ++ vs.drop (i + 1) := by
  have h1 : (by8 (cs.take i)).length = i := by simp; omega
  rw [List.set_append_right _ _ (by omega), h1, Nat.sub_self, List.drop_eq_getElem_cons (by omega : i < vs.length), List.set_cons_zero, List.take_succ_eq_append_getElem hi]
  simp only [by8, List.map_append, List.map_cons, List.map_nil, List.append_assoc, List.cons_append, List.nil_append]
theorem lt32 {a b : Nat} (ha : a < 2 ^ 31) (hb : b < 2 ^ 31) : a.toInt32 < b.toInt32 ↔ a < b := by
  rw [Int32.lt_iff_toInt_lt, (len32 ha).2.2, (len32 hb).2.2]; omega
theorem eq32 {a b : Nat} (ha : a < 2 ^ 31) (hb : b < 2 ^ 31) : a.toInt32 = b.toInt32 ↔ a = b := by
  rw [← Int32.toInt_inj, (len32 ha).2.2, (len32 hb).2.2]; omega

theorem shr0 (x : Int32) : x >>> ((0 : Int32) &&& 31) = x := by
  have e : (0 : Int32) &&& 31 = 0 := by decide
  rw [e]; simp
theorem lo8m {x : Int32} (h : 0 ≤ x.toInt ∧ x.toInt ≤ 255) : x.toInt8.toInt32 &&& (255 : Int32) = x := by
  apply Int32.toInt_inj.mp
  have e1 := c_mask x.toInt8.toInt32 255 8 (by decide) (by decide)
  rw [e1]
  have e2 := c_i2b x
  omega
theorem i2cx {x : Int32} (h : 0 ≤ x.toInt ∧ x.toInt ≤ 65535) : x.toUInt32.toUInt16.toUInt32.toInt32 = x := by
  apply Int32.toInt_inj.mp
  have e2 := c_i2c x
  omega
theorem narc {x : Int32} (h : 0 ≤ x.toInt ∧ x.toInt ≤ 65535) : narrow .char (.int x) = .int x := by
  show Value.int _ = _
  rw [i2cx h]
theorem Own.Lat.at {cs : List Int32} (L : Lat cs) {i : Nat} (hi : i < cs.length) : 0 ≤ (cs.getD i 0).toInt ∧ (cs.getD i 0).toInt ≤ 255 := by
  rw [List.getD_eq_getElem?_getD, List.getElem?_eq_getElem hi]; exact L _ (List.getElem_mem hi)
theorem to16 {x : Int} (h : 0 ≤ x ∧ x ≤ 255) : 0 ≤ x ∧ x ≤ 65535 := by omega
theorem by8_at {cs : List Int32} {i : Nat} (hi : i < cs.length) : (by8 cs)[i.toInt32.toNatClampNeg]? = some (.int (cs.getD i 0).toInt8.toInt32) ↔ i.toInt32.toNatClampNeg = i ∨ (by8 cs)[i.toInt32.toNatClampNeg]? = some (.int (cs.getD i 0).toInt8.toInt32) := by
  constructor
  · exact Or.inr
  · rintro (h | h)
    · rw [h]; simp [hi]
    · exact h
theorem by8_get {cs : List Int32} {i : Nat} (hi : i < cs.length) (hl : cs.length < 2 ^ 31) : (by8 cs)[i.toInt32.toNatClampNeg]? = some (.int (cs.getD i 0).toInt8.toInt32) := (by8_at hi).mpr (Or.inl (len32 (by omega)).2.1)
theorem lo8_inj {x y : Int32} (h : 0 ≤ x.toInt ∧ x.toInt ≤ 255) (h' : 0 ≤ y.toInt ∧ y.toInt ≤ 255) (q : x.toInt8.toInt32 = y.toInt8.toInt32) : x = y := by
  rw [← lo8m h, ← lo8m h', q]
theorem take_step {cs ds : List Int32} {i : Nat} (h : cs.take i = ds.take i) (hi : i < cs.length) (hj : i < ds.length) (e : cs.getD i 0 = ds.getD i 0) : cs.take (i + 1) = ds.take (i + 1) := by
  rw [List.take_succ_eq_append_getElem hi, List.take_succ_eq_append_getElem hj, h]
  rw [List.getD_eq_getElem?_getD, List.getElem?_eq_getElem hi, List.getD_eq_getElem?_getD, List.getElem?_eq_getElem hj] at e
  have e' : cs[i] = ds[i] := e
  rw [e']
theorem ite1 {P : Prop} [Decidable P] (h : P) : (1 : Int32) = if P then 1 else 0 := (if_pos h).symm
theorem ite0 {P : Prop} [Decidable P] (h : ¬ P) : (0 : Int32) = if P then 1 else 0 := (if_neg h).symm
theorem narb {P : Prop} [Decidable P] : narrow .boolean (.int (if P then (1 : Int32) else 0)) = .int (if P then (1 : Int32) else 0) := by split <;> decide


def eOf (e0 e1 e2 : Addr) (i : Int32) : Addr := if i = 0 then e0 else if i = 1 then e1 else e2
def dlOf (i : Int32) : Int32 := if i = 0 then 32 else if i = 1 then 20 else 16
def i3 (i : Int32) : Prop := i = 0 ∨ i = 1 ∨ i = 2
theorem eOf_exa {Z : State} {h : Heap} {e0 e1 e2 : Addr} {C : String} (i : Int32) (E0 : Exa Z h e0 C) (E1 : Exa Z h e1 C) (E2 : Exa Z h e2 C) : Exa Z h (eOf e0 e1 e2 i) C := by
  unfold eOf; split
  · exact E0
  · split
    · exact E1
    · exact E2
theorem eOf_fld {Z : State} {h : Heap} {e0 e1 e2 : Addr} {C n d : String} (i : Int32) (E0 : Fld Z h e0 C n d (.int 32)) (E1 : Fld Z h e1 C n d (.int 20)) (E2 : Fld Z h e2 C n d (.int 16)) : Fld Z h (eOf e0 e1 e2 i) C n d (.int (dlOf i)) := by
  unfold eOf dlOf; split
  · exact E0
  · split
    · exact E1
    · exact E2
theorem eOf_inj {Z : State} {h : Heap} {e0 e1 e2 : Addr} {C n d : String} {i j : Int32} (E0 : Fld Z h e0 C n d (.int 32)) (E1 : Fld Z h e1 C n d (.int 20)) (E2 : Fld Z h e2 C n d (.int 16)) (hi : i3 i) (hj : i3 j) (q : eOf e0 e1 e2 i = eOf e0 e1 e2 j) : i = j := by
  have n1 : e0 ≠ e1 := Fld.ne E0 E1 (by simp)
  have n2 : e0 ≠ e2 := Fld.ne E0 E2 (by simp)
  have n3 : e1 ≠ e2 := Fld.ne E1 E2 (by simp)
  have d10 : ¬ (1 : Int32) = 0 := by decide
  have d20 : ¬ (2 : Int32) = 0 := by decide
  have d21 : ¬ (2 : Int32) = 1 := by decide
  rcases hi with rfl | rfl | rfl <;> rcases hj with rfl | rfl | rfl <;> simp only [eOf, d10, d20, d21, if_true, if_false] at q <;> first | rfl | exact absurd q n1 | exact absurd q n2 | exact absurd q n3 | exact absurd q n1.symm | exact absurd q n2.symm | exact absurd q n3.symm
def HexC (c : Int32) : Prop := (48 ≤ c.toInt ∧ c.toInt ≤ 57) ∨ (97 ≤ c.toInt ∧ c.toInt ≤ 102)
theorem hex_lat {cs : List Int32} (H : ∀ c ∈ cs, HexC c) : Lat cs := fun c hc => by rcases H c hc with h | h <;> omega
theorem hex_at {cs : List Int32} (H : ∀ c ∈ cs, HexC c) {i : Nat} (hi : i < cs.length) : HexC (cs.getD i 0) := by
  rw [List.getD_eq_getElem?_getD, List.getElem?_eq_getElem hi]; exact H _ (List.getElem_mem hi)
theorem mod3 (x : Int32) : i3 ((x &&& (3 : Int32)) % (3 : Int32)) := by
  have h1 := c_mask x 3 2 (by decide) (by decide)
  have h2 := (c_irem (x &&& 3) 3 3 (by decide)).1 (by rw [h1]; omega)
  have e0 : (0 : Int32).toInt = 0 := rfl
  have e1 : (1 : Int32).toInt = 1 := rfl
  have e2 : (2 : Int32).toInt = 2 := rfl
  have : ((x &&& (3 : Int32)) % (3 : Int32)).toInt = 0 ∨ ((x &&& (3 : Int32)) % (3 : Int32)).toInt = 1 ∨ ((x &&& (3 : Int32)) % (3 : Int32)).toInt = 2 := by omega
  rcases this with q | q | q
  · exact Or.inl (Int32.toInt_inj.mp (q.trans e0.symm))
  · exact Or.inr (Or.inl (Int32.toInt_inj.mp (q.trans e1.symm)))
  · exact Or.inr (Or.inr (Int32.toInt_inj.mp (q.trans e2.symm)))
theorem pos31 (x : Int32) : ¬ (x &&& (2147483647 : Int32)) < 0 := by
  have := (c_and x 2147483647 (by decide)).1
  rw [Int32.lt_iff_toInt_lt]; have e0 : (0 : Int32).toInt = 0 := rfl; omega

def hexc (n : Int32) : Int32 := ([(48 : Int32), (49 : Int32), (50 : Int32), (51 : Int32), (52 : Int32), (53 : Int32), (54 : Int32), (55 : Int32), (56 : Int32), (57 : Int32), (97 : Int32), (98 : Int32), (99 : Int32), (100 : Int32), (101 : Int32), (102 : Int32)] : List Int32).getD (n &&& (15 : Int32)).toNatClampNeg 0
theorem m15 (n : Int32) : 0 ≤ (n &&& (15 : Int32)).toInt ∧ (n &&& (15 : Int32)).toInt ≤ 15 := c_and n 15 (by decide)
theorem nn15 (n : Int32) : ¬ (n &&& (15 : Int32)) < 0 := by rw [Int32.lt_iff_toInt_lt]; have e0 : (0 : Int32).toInt = 0 := rfl; have := m15 n; omega
theorem lt16 (n : Int32) : (n &&& (15 : Int32)).toNatClampNeg < 16 := by have := m15 n; simp only [Int32.toNatClampNeg]; omega
theorem hexT : ∀ m : Fin 16, HexC (([(48 : Int32), (49 : Int32), (50 : Int32), (51 : Int32), (52 : Int32), (53 : Int32), (54 : Int32), (55 : Int32), (56 : Int32), (57 : Int32), (97 : Int32), (98 : Int32), (99 : Int32), (100 : Int32), (101 : Int32), (102 : Int32)] : List Int32).getD m.1 0) := by unfold HexC; decide +kernel
theorem hexc_hex (n : Int32) : HexC (hexc n) := hexT ⟨_, lt16 n⟩
theorem hexc_rng (n : Int32) : 0 ≤ (hexc n).toInt ∧ (hexc n).toInt ≤ 255 := by rcases hexc_hex n with h | h <;> omega
theorem hexc_nar {c n : Int32} (q : c = hexc n) : nar .char c = c := by rw [q]; exact i2cx (to16 (hexc_rng n))
theorem hexc_lat {c n : Int32} (q : c = hexc n) : 0 ≤ c.toInt ∧ c.toInt ≤ 255 := by rw [q]; exact hexc_rng n
def N15 (x : Int32) : Prop := 0 ≤ x.toInt ∧ x.toInt ≤ 15
theorem N15.m {x : Int32} (h : N15 x) : ∃ m : Fin 16, x = Int32.ofNat m.1 := by
  refine ⟨⟨x.toInt.toNat, by have := h.1; have := h.2; omega⟩, Int32.toInt_inj.mp ?_⟩
  have h1 := h.1; have h2 := h.2
  show x.toInt = (x.toInt.toNat.toInt32).toInt
  rw [(len32 (by omega)).2.2]; omega
theorem hexI : ∀ m m' : Fin 16, hexc (Int32.ofNat m.1) = hexc (Int32.ofNat m'.1) → m = m' := by decide +kernel
theorem hexc_inj {x y : Int32} (hx : N15 x) (hy : N15 y) (q : hexc x = hexc y) : x = y := by
  obtain ⟨m, rfl⟩ := hx.m; obtain ⟨m', rfl⟩ := hy.m; rw [hexI m m' q]
def sigL (i x y z f : Int32) : List Int32 :=
  if i = 0 then hexc x :: (List.replicate 31 (hexc f) ++ hexc y :: (List.replicate 30 (hexc f) ++ [hexc z]))
  else if i = 1 then hexc x :: (List.replicate 19 (hexc f) ++ hexc y :: (List.replicate 18 (hexc f) ++ [hexc z]))
  else hexc x :: (List.replicate 15 (hexc f) ++ hexc y :: (List.replicate 14 (hexc f) ++ [hexc z]))
theorem sigL_len {i : Int32} (hi : i3 i) (x y z f : Int32) : (sigL i x y z f).length.toInt32 = (2 : Int32) * dlOf i := by
  rcases hi with rfl | rfl | rfl <;> simp [sigL, dlOf] <;> decide
theorem sigL_hex (i x y z f : Int32) : ∀ c ∈ sigL i x y z f, HexC c := by
  intro c hc
  unfold sigL at hc
  split at hc
  · simp only [List.mem_cons, List.mem_append, List.mem_replicate, List.not_mem_nil, or_false] at hc
    rcases hc with rfl | ⟨-, rfl⟩ | rfl | ⟨-, rfl⟩ | rfl <;> exact hexc_hex _
  · split at hc
    · simp only [List.mem_cons, List.mem_append, List.mem_replicate, List.not_mem_nil, or_false] at hc
      rcases hc with rfl | ⟨-, rfl⟩ | rfl | ⟨-, rfl⟩ | rfl <;> exact hexc_hex _
    · simp only [List.mem_cons, List.mem_append, List.mem_replicate, List.not_mem_nil, or_false] at hc
      rcases hc with rfl | ⟨-, rfl⟩ | rfl | ⟨-, rfl⟩ | rfl <;> exact hexc_hex _
theorem rep_inj {a n : Nat} {x y z f x' y' z' f' : Int32} (ha : 0 < a) (q : x :: (List.replicate a f ++ y :: (List.replicate n f ++ [z])) = x' :: (List.replicate a f' ++ y' :: (List.replicate n f' ++ [z']))) : x = x' ∧ y = y' ∧ z = z' ∧ f = f' := by
  injection q with q1 q2
  obtain ⟨q3, q4⟩ := List.append_inj q2 (by simp)
  injection q4 with q5 q6
  obtain ⟨-, q8⟩ := List.append_inj q6 (by simp)
  injection q8 with q9 _
  refine ⟨q1, q5, q9, ?_⟩
  obtain ⟨a', rfl⟩ : ∃ b, a = b + 1 := ⟨a - 1, by omega⟩
  rw [List.replicate_succ, List.replicate_succ] at q3
  injection q3
theorem sigL_inj {i : Int32} {x y z f x' y' z' f' : Int32} (hx : N15 x) (hy : N15 y) (hz : N15 z) (hf : N15 f) (hx' : N15 x') (hy' : N15 y') (hz' : N15 z') (hf' : N15 f') (q : sigL i x y z f = sigL i x' y' z' f') : x = x' ∧ y = y' ∧ z = z' ∧ f = f' := by
  unfold sigL at q
  split at q
  · obtain ⟨a, b, c, d⟩ := rep_inj (by decide) q; exact ⟨hexc_inj hx hx' a, hexc_inj hy hy' b, hexc_inj hz hz' c, hexc_inj hf hf' d⟩
  · split at q
    · obtain ⟨a, b, c, d⟩ := rep_inj (by decide) q; exact ⟨hexc_inj hx hx' a, hexc_inj hy hy' b, hexc_inj hz hz' c, hexc_inj hf hf' d⟩
    · obtain ⟨a, b, c, d⟩ := rep_inj (by decide) q; exact ⟨hexc_inj hx hx' a, hexc_inj hy hy' b, hexc_inj hz hz' c, hexc_inj hf hf' d⟩

abbrev c_cmp5_q (Z : State) (zC : Int32) (fS : Value) (e0 : Addr) (e1 : Addr) (e2 : Addr) (h : Heap) (B : Addr → Prop) (a d : Addr) (cs : List Int32) (vs : List Value) (xR : Value) (h' : Heap) : Prop := xR = (.int cs.length.toInt32) ∧ Keep h h' [d] ∧ Ar Z h' d .byte (by8 cs)
def c_cmp5_rm : Room := { frames := 0, cells := 0, slots := 0, locals := 0 }
set_option maxRecDepth 65536 in
set_option maxHeartbeats 40000000 in
theorem c_cmp5 {l : Launch} {Z : State} {a0 : Array Value} {zC : Int32} {fS : Value} {e0 : Addr} {e1 : Addr} {e2 : Addr} {h : Heap} {B : Addr → Prop} {a d : Addr} {cs : List Int32} {vs : List Value} (G : Gl Z a0 zC fS e0 e1 e2) (hE : En Z B h) (P0 : Ar Z h a .char (cs.map Value.int)) (P1 : Ar Z h d .byte vs) (P2 : Lat cs) (P3 : vs.length = cs.length) (P4 : Z.heap.size ≤ d) (P5 : ¬ B d) : Con l Z consts_1 [] (⟨"java/lang/StringUTF16", "compress", "([CI[BII)I"⟩ : MethodName) jdk_52_method_21_code 7 (some .int) c_cmp5_rm B h #[(.ref a), (.int (0 : Int32)), (.ref d), (.int (0 : Int32)), (.int cs.length.toInt32)] (fun vR hR BR => ∃ xR, vR = some xR ∧ BR = B ∧ c_cmp5_q Z zC fS e0 e1 e2 h B a d cs vs xR hR) := by
  have hz0 := hE.1.1
  refine Con.intro (ls := #[.val (.ref a), .val (.int (0 : Int32)), .val (.ref d), .val (.int (0 : Int32)), .val (.int cs.length.toInt32), .unset, .unset]) (plainFor_of_name pn0) G.2.1 hE (fun m => by first | rfl | (simp [entryFrame, mkF, argsToLocals, Value.category]; done) | rfl) ?_
  intro p e s m below meth c T hs X
  have hL := P0.len_lt; rw [List.length_map] at hL
  have hne : a ≠ d := ar_ne P0 P1 (by decide)
  have loop : ∀ (r i : Nat) (T : State) (h1 : Heap) (o : Slot), i + r = cs.length → (o = .unset ∨ ∃ x, o = .val (.int x)) → Wk l Z consts_1 (⟨"java/lang/StringUTF16", "compress", "([CI[BII)I"⟩ : MethodName) jdk_52_method_21_code 7 (some .int) c_cmp5_rm B p e s m #[(.ref a), (.int (0 : Int32)), (.ref d), (.int (0 : Int32)), (.int cs.length.toInt32)] below meth c B T h1 0 0 → Keep h h1 [d] → Ar Z h1 a .char (cs.map Value.int) → Ar Z h1 d .byte (by8 (cs.take i) ++ vs.drop i) → Go l Z consts_1 c_cmp5_rm B (fun vR hR BR => ∃ xR, vR = some xR ∧ BR = B ∧ c_cmp5_q Z zC fS e0 e1 e2 h B a d cs vs xR hR) p e s m below T 3 #[.val (.ref a), .val (.int i.toInt32), .val (.ref d), .val (.int i.toInt32), .val (.int cs.length.toInt32), .val (.int i.toInt32), o] [] := by
    intro r
    induction r with
    | zero =>
      intro i T h1 o hi ho X K A D
      obtain rfl : i = cs.length := by omega
      have D : Ar Z h1 d .byte (by8 cs) := by simpa [P3, List.drop_eq_nil_of_le] using D
      refine W.iload (pc' := 5) X d_jdk_52_m21_3 rfl rfl ?_
      refine W.iload (pc' := 7) X d_jdk_52_m21_5 rfl rfl ?_
      refine W.icT (pc' := 44) X d_jdk_52_m21_7 (XT.ii_ge_t (fun q => by rw [Int32.lt_iff_toInt_lt] at q; omega)) (by decide) (by decide) ?_
      refine W.iload (pc' := 46) X d_jdk_52_m21_44 rfl rfl ?_
      exact W.ireturn X d_jdk_52_m21_46 rfl (by decide) rfl (by decide) (by decide) ⟨_, rfl, rfl, ⟨rfl, (Keep.trans (Keep.refl h [d]) K (allS (Or.inl (List.mem_of_getElem? (i := 0) rfl)) all0)), D⟩⟩
    | succ r ih =>
      intro i T h1 o hi ho X K A D
      have hi' : i < cs.length := by omega
      rcases ho with rfl | ⟨x0, rfl⟩
      all_goals
        refine W.iload (pc' := 5) X d_jdk_52_m21_3 rfl rfl ?_
        refine W.iload (pc' := 7) X d_jdk_52_m21_5 rfl rfl ?_
        refine W.icF (pc' := 10) X d_jdk_52_m21_7 (XT.ii_ge_f ((lt32 (by omega) hL).mpr hi')) rfl ?_
        refine W.aloadN (pc' := 11) X d_jdk_52_m21_10 rfl rfl rfl ?_
        refine W.iloadN (pc' := 12) X d_jdk_52_m21_11 rfl rfl ?_
        refine W.caload (pc' := 13) (v := (.int cs[i])) X A (len32 (by omega)).1 (by rw [(len32 (by omega)).2.1]; simp [hi']) d_jdk_52_m21_12 rfl ?_
        refine W.istore (pc' := 15) (ls' := #[.val (.ref a), .val (.int i.toInt32), .val (.ref d), .val (.int i.toInt32), .val (.int cs.length.toInt32), .val (.int i.toInt32), .val (.int cs[i])]) X d_jdk_52_m21_13 rfl rfl ?_
        refine W.iload (pc' := 17) X d_jdk_52_m21_15 rfl rfl ?_
        refine W.sipush (pc' := 20) X (255 : Int32) d_jdk_52_m21_17 (by decide) rfl ?_
        refine W.icT (pc' := 26) X d_jdk_52_m21_20 (XT.ii_le_t (ge255 P2 hi')) (by decide) (by decide) ?_
        refine W.aloadN (pc' := 27) X d_jdk_52_m21_26 rfl rfl rfl ?_
        refine W.iloadN (pc' := 28) X d_jdk_52_m21_27 rfl rfl ?_
        refine W.iload (pc' := 30) X d_jdk_52_m21_28 rfl rfl ?_
        refine W.i2b (pc' := 31) (w := (cs[i]).toInt8.toInt32) X d_jdk_52_m21_30 rfl rfl ?_
        refine W.bastore (pc' := 32) (i := i) X D (len32 (by omega)).1 (len32 (by omega)).2.1 (by simp; omega) (lo8_lo8 _) P4 P5 d_jdk_52_m21_31 rfl fun T h1 X K2 A3 => ?_
        refine W.iinc (pc' := 35) (ls' := #[.val (.ref a), .val (.int (i + 1).toInt32), .val (.ref d), .val (.int i.toInt32), .val (.int cs.length.toInt32), .val (.int i.toInt32), .val (.int cs[i])]) X (1 : Int32) (w := (i + 1).toInt32) d_jdk_52_m21_32 (by decide) rfl (t32s i) rfl rfl ?_
        refine W.iinc (pc' := 38) (ls' := #[.val (.ref a), .val (.int (i + 1).toInt32), .val (.ref d), .val (.int (i + 1).toInt32), .val (.int cs.length.toInt32), .val (.int i.toInt32), .val (.int cs[i])]) X (1 : Int32) (w := (i + 1).toInt32) d_jdk_52_m21_35 (by decide) rfl (t32s i) rfl rfl ?_
        refine W.iinc (pc' := 41) (ls' := #[.val (.ref a), .val (.int (i + 1).toInt32), .val (.ref d), .val (.int (i + 1).toInt32), .val (.int cs.length.toInt32), .val (.int (i + 1).toInt32), .val (.int cs[i])]) X (1 : Int32) (w := (i + 1).toInt32) d_jdk_52_m21_38 (by decide) rfl (t32s i) rfl rfl ?_
        refine W.goto (pc' := 3) X d_jdk_52_m21_41 (by decide) (by decide) ?_
        have F4 := (A.keep K2 (ninS hne nin0))
        have D9 := A3; rw [cmp_set hi' P3] at D9
        exact ih (i + 1) T h1 _ (by omega) (Or.inr ⟨_, rfl⟩) X (K.trans K2 (allS (Or.inl (List.mem_of_getElem? (i := 0) rfl)) all0)) F4 D9
  refine W.iconst (pc' := 1) X (0 : Int32) d_jdk_52_m21_0 (by decide) rfl ?_
  refine W.istore (pc' := 3) (ls' := #[.val (.ref a), .val (.int (0 : Int32)), .val (.ref d), .val (.int (0 : Int32)), .val (.int cs.length.toInt32), .val (.int (0 : Int32)), .unset]) X d_jdk_52_m21_1 rfl rfl ?_
  exact loop cs.length 0 T h .unset (by omega) (Or.inl rfl) X (Keep.refl _ _) P0 (by simpa using P1)
def c_codl_rm : Room := { frames := 0, cells := 0, slots := 0, locals := 0 }
set_option maxRecDepth 65536 in
set_option maxHeartbeats 40000000 in
theorem c_codl {l : Launch} {Z : State} {a0 : Array Value} {zC : Int32} {fS : Value} {e0 : Addr} {e1 : Addr} {e2 : Addr} {h : Heap} {B : Addr → Prop} {d : Addr} {vs : List Value} {n : Int32} (G : Gl Z a0 zC fS e0 e1 e2) (hE : En Z B h) (P0 : Ar Z h d .byte vs) (P1 : vs.length.toInt32 = n) : Con l Z consts_1 [] (⟨"java/lang/StringUTF16", "coderFromArrayLen", "([BI)B"⟩ : MethodName) jdk_52_method_15_code 2 (some .byte) c_codl_rm B h #[(.ref d), (.int n)] (fun vR hR BR => vR = some (.int (0 : Int32)) ∧ hR = h ∧ BR = B) := by
  have hz0 := hE.1.1
  refine Con.intro (ls := #[.val (.ref d), .val (.int n)]) (plainFor_of_name pn0) G.2.1 hE (fun m => by first | rfl | (simp [entryFrame, mkF, argsToLocals, Value.category]; done) | rfl) ?_
  intro p e s m below meth c T hs X
  refine W.iloadN (pc' := 1) X d_jdk_52_m15_0 rfl rfl ?_
  refine W.aloadN (pc' := 2) X d_jdk_52_m15_1 rfl rfl rfl ?_
  refine W.alen (pc' := 3) (z := n) X P0 P1 d_jdk_52_m15_2 rfl ?_
  refine W.isub (pc' := 4) (w := (0 : Int32)) X d_jdk_52_m15_3 (Int32.sub_self _) rfl ?_
  refine W.bipush (pc' := 6) X (31 : Int32) d_jdk_52_m15_4 (by decide) rfl ?_
  refine W.iushr (pc' := 7) (w := (0 : Int32)) X d_jdk_52_m15_6 (by decide) rfl ?_
  refine W.i2b (pc' := 8) (w := (0 : Int32)) X d_jdk_52_m15_7 (by decide) rfl ?_
  exact W.ireturn X d_jdk_52_m15_8 rfl (by decide) (by decide) (by decide) (by decide) ⟨rfl, rfl, rfl⟩
abbrev c_cmp3_q (Z : State) (zC : Int32) (fS : Value) (e0 : Addr) (e1 : Addr) (e2 : Addr) (h : Heap) (B : Addr → Prop) (a : Addr) (cs : List Int32) (xR : Value) (h' : Heap) : Prop := ∃ (t : Addr), xR = (.ref t) ∧ Keep h h' [] ∧ h.size ≤ t ∧ Ar Z h' t .byte (by8 cs)
def c_cmp3_rm : Room := { frames := 1, cells := 1, slots := 64, locals := 18 }
set_option maxRecDepth 65536 in
set_option maxHeartbeats 40000000 in
theorem c_cmp3 {l : Launch} {Z : State} {a0 : Array Value} {zC : Int32} {fS : Value} {e0 : Addr} {e1 : Addr} {e2 : Addr} {h : Heap} {B : Addr → Prop} {a : Addr} {cs : List Int32} (G : Gl Z a0 zC fS e0 e1 e2) (hE : En Z B h) (P0 : Ar Z h a .char (cs.map Value.int)) (P1 : Lat cs) (P2 : cs.length ≤ 64) : Con l Z consts_1 [] (⟨"java/lang/StringUTF16", "compress", "([CII)[B"⟩ : MethodName) jdk_52_method_16_code 6 (some (.array .byte)) c_cmp3_rm B h #[(.ref a), (.int (0 : Int32)), (.int cs.length.toInt32)] (fun vR hR BR => ∃ xR, vR = some xR ∧ BR = B ∧ c_cmp3_q Z zC fS e0 e1 e2 h B a cs xR hR) := by
  have hz0 := hE.1.1
  refine Con.intro (ls := #[.val (.ref a), .val (.int (0 : Int32)), .val (.int cs.length.toInt32), .unset, .unset, .unset]) (plainFor_of_name pn0) G.2.1 hE (fun m => by first | rfl | (simp [entryFrame, mkF, argsToLocals, Value.category]; done) | rfl) ?_
  intro p e s m below meth c T hs X
  refine W.iloadN (pc' := 1) X d_jdk_52_m16_0 rfl rfl ?_
  refine W.newA (aty := .byte) (pc' := 3) (k' := 1) (n' := 64) (cap := 64) X (w20 G) d_jdk_52_m16_1 (len32 (by omega)).1 (by rw [(len32 (by omega)).2.1]; exact P2) (by decide) rfl (by decide) (by decide) (by decide) (by decide) fun T h1 a2 X K3 g4 g5 nb6 A7 => ?_
  have A7 : Ar Z h1 a2 .byte (List.replicate cs.length (.int (0 : Int32))) := by have q := A7; rw [(len32 (by omega)).2.1] at q; exact q
  refine W.astoreN (pc' := 4) (ls' := #[.val (.ref a), .val (.int (0 : Int32)), .val (.int cs.length.toInt32), .val (.ref a2), .unset, .unset]) X d_jdk_52_m16_3 rfl rfl rfl ?_
  refine W.aloadN (pc' := 5) X d_jdk_52_m16_4 rfl rfl rfl ?_
  refine W.iloadN (pc' := 6) X d_jdk_52_m16_5 rfl rfl ?_
  refine W.aloadN (pc' := 7) X d_jdk_52_m16_6 rfl rfl rfl ?_
  refine W.iconst (pc' := 8) X (0 : Int32) d_jdk_52_m16_7 (by decide) rfl ?_
  refine W.iloadN (pc' := 9) X d_jdk_52_m16_8 rfl rfl ?_
  have F8 := (P0.keep K3 nin0)
  refine W.callS (pc' := 12) (W := 0) (argsL := [(.ref a), (.int (0 : Int32)), (.ref a2), (.int (0 : Int32)), (.int cs.length.toInt32)]) (st := []) (k' := 1) (n' := 64) X (c_cmp5 (a := a) (d := a2) (cs := cs) (vs := (List.replicate cs.length (.int (0 : Int32)))) G X.en F8 A7 P1 (by simp) g5 nb6) (w66 G) (w67 G) (w68 G) (w64 G) (by decide) (by decide) (by decide) rfl (lenOf pd1 rfl) rfl rfl (Nat.le_of_eq rfl) d_jdk_52_m16_9 rfl (by decide) (by decide) (by decide) (by decide) (kr fun T h9 xr X z10 q11 => ?_)
  obtain ⟨rfl, K12, F13⟩ := q11
  refine W.istore (pc' := 14) (ls' := #[.val (.ref a), .val (.int (0 : Int32)), .val (.int cs.length.toInt32), .val (.ref a2), .val (.int cs.length.toInt32), .unset]) X d_jdk_52_m16_12 rfl rfl ?_
  refine W.iload (pc' := 16) X d_jdk_52_m16_14 rfl rfl ?_
  refine W.iloadN (pc' := 17) X d_jdk_52_m16_16 rfl rfl ?_
  refine W.icT (pc' := 57) X d_jdk_52_m16_17 (XT.ii_eq_t rfl) (by decide) (by decide) ?_
  refine W.aloadN (pc' := 58) X d_jdk_52_m16_57 rfl rfl rfl ?_
  exact W.areturn X d_jdk_52_m16_58 rfl rfl rfl rfl (by decide) (by decide) ⟨_, rfl, rfl, ⟨a2, rfl, (Keep.trans (Keep.trans (Keep.refl h []) K3 all0) K12 (allS (Or.inr (Nat.le_trans (Nat.le_refl _) g4)) all0)), (Nat.le_trans (Nat.le_refl _) g4), F13⟩⟩
abbrev c_init4_q (Z : State) (zC : Int32) (fS : Value) (e0 : Addr) (e1 : Addr) (e2 : Addr) (h : Heap) (B : Addr → Prop) (x a : Addr) (cs : List Int32) (v0 c0 : Value) (h' : Heap) : Prop := ∃ (t : Addr), Keep h h' [x] ∧ h.size ≤ t ∧ Str Z h' x t cs
def c_init4_rm : Room := { frames := 2, cells := 1, slots := 64, locals := 35 }
set_option maxRecDepth 65536 in
set_option maxHeartbeats 40000000 in
theorem c_init4 {l : Launch} {Z : State} {a0 : Array Value} {zC : Int32} {fS : Value} {e0 : Addr} {e1 : Addr} {e2 : Addr} {h : Heap} {B : Addr → Prop} {x a : Addr} {cs : List Int32} {v0 c0 : Value} (G : Gl Z a0 zC fS e0 e1 e2) (hE : En Z B h) (P0 : Exa Z h x "java/lang/String") (P1 : Fld Z h x "java/lang/String" "value" "[B" v0) (P2 : Fld Z h x "java/lang/String" "coder" "B" c0) (P3 : Ar Z h a .char (cs.map Value.int)) (P4 : Lat cs) (P5 : 0 < cs.length) (P6 : cs.length ≤ 64) (P7 : Z.heap.size ≤ x) (P8 : ¬ B x) : Con l Z consts_1 [] (⟨"java/lang/String", "<init>", "([CIILjava/lang/Void;)V"⟩ : MethodName) jdk_42_method_149_code 6 none c_init4_rm B h #[(.ref x), (.ref a), (.int (0 : Int32)), (.int cs.length.toInt32), .null] (fun vR hR BR => vR = none ∧ BR = B ∧ c_init4_q Z zC fS e0 e1 e2 h B x a cs v0 c0 hR) := by
  have hz0 := hE.1.1
  refine Con.intro (ls := #[.val (.ref x), .val (.ref a), .val (.int (0 : Int32)), .val (.int cs.length.toInt32), .val .null, .unset]) (plainFor_of_name pn4) G.2.1 hE (fun m => by first | rfl | (simp [entryFrame, mkF, argsToLocals, Value.category]; done) | rfl) ?_
  intro p e s m below meth c T hs X
  refine W.aloadN (pc' := 1) X d_jdk_42_m149_0 rfl rfl rfl ?_
  refine W.initO (pc' := 4) (W := 0) X (w59 G) (w60 G) (w61 G) d_jdk_42_m149_1 rfl (by decide) (Nat.le_of_eq rfl) (by decide) rfl fun T X => ?_
  refine W.iloadN (pc' := 5) X d_jdk_42_m149_4 rfl rfl ?_
  refine W.ifT (pc' := 27) X d_jdk_42_m149_5 (XT.i0_ne_t (fun q => absurd ((eq32 (b := 0) (by omega) (by decide)).mp q) (by omega))) (by decide) (by decide) ?_
  refine W.getS (pc' := 30) (host := "") X (Or.inl (w35 G)) Via.refl G.2.2.1 d_jdk_42_m149_27 rfl fun T X => ?_
  refine W.ifF (pc' := 33) X d_jdk_42_m149_30 (XT.i0_eq_f G.2.2.2.1) rfl ?_
  refine W.aloadN (pc' := 34) X d_jdk_42_m149_33 rfl rfl rfl ?_
  refine W.iloadN (pc' := 35) X d_jdk_42_m149_34 rfl rfl ?_
  refine W.iloadN (pc' := 36) X d_jdk_42_m149_35 rfl rfl ?_
  have en1 := X.en
  refine W.callS (pc' := 39) (W := 0) (argsL := [(.ref a), (.int (0 : Int32)), (.int cs.length.toInt32)]) (st := []) (k' := 1) (n' := 64) X (c_cmp3 (a := a) (cs := cs) G X.en P3 P4 P6) (w62 G) (w63 G) (w65 G) (w64 G) (by decide) (by decide) (by decide) rfl (lenOf pd2 rfl) rfl rfl (Nat.le_of_eq rfl) d_jdk_42_m149_36 rfl (by decide) (by decide) (by decide) (by decide) (kr fun T h2 xr X z3 q4 => ?_)
  obtain ⟨a5, rfl, K6, g7, F8⟩ := q4
  have g9 : Z.heap.size ≤ a5 := Nat.le_trans (Nat.le_trans hz0 (Nat.le_refl _)) g7
  have nb10 : ¬ B a5 := fun q => absurd (en1.2 _ q) (Nat.not_lt.mpr g7)
  refine W.astore (pc' := 41) (ls' := #[.val (.ref x), .val (.ref a), .val (.int (0 : Int32)), .val (.int cs.length.toInt32), .val .null, .val (.ref a5)]) X d_jdk_42_m149_39 rfl rfl rfl ?_
  refine W.aloadN (pc' := 42) X d_jdk_42_m149_41 rfl rfl rfl ?_
  refine W.aload (pc' := 44) X d_jdk_42_m149_42 rfl rfl rfl ?_
  refine W.iloadN (pc' := 45) X d_jdk_42_m149_44 rfl rfl ?_
  refine W.callS (pc' := 48) (W := 1) (argsL := [(.ref a5), (.int cs.length.toInt32)]) (st := [(.ref x)]) (k' := 1) (n' := 64) X (c_codl (d := a5) (vs := (by8 cs)) (n := cs.length.toInt32) G X.en F8 (by simp)) (w69 G) (w70 G) (w71 G) (w64 G) (by decide) (by decide) (by decide) rfl (lenOf pd3 rfl) rfl rfl (Nat.le_of_eq rfl) d_jdk_42_m149_45 rfl (by decide) (by decide) (by decide) (by decide) (kp fun T X => ?_)
  have F11 := (P2.keep K6 nin0)
  have F12 := (P0.keep K6)
  refine W.putF (pc' := 51) X (w36 G) Via.refl F11 F12 (Or.inr ⟨(w22 G), rfl, rfl⟩) (w19 G) (ty := .byte) (by decide) (by decide) (by decide) P7 P8 d_jdk_42_m149_48 rfl fun T h13 X W14 => ?_
  have F15 := F11.same W14
  refine W.aloadN (pc' := 52) X d_jdk_42_m149_51 rfl rfl rfl ?_
  refine W.aload (pc' := 54) X d_jdk_42_m149_52 rfl rfl rfl ?_
  have F16 := ((P1.keep K6 nin0).other W14 (Or.inr (slot_ne (Or.inr (w21 G)) (Or.inr (w22 G)) (by decide) (t := (.array .byte)) (t' := .byte) (by decide) (by decide))))
  have F17 := (F12.wr W14)
  refine W.putF (pc' := 57) X (w37 G) Via.refl F16 F17 (Or.inr ⟨(w21 G), rfl, rfl⟩) (w19 G) (ty := (.array .byte)) (by decide) rfl rfl P7 P8 d_jdk_42_m149_54 rfl fun T h18 X W19 => ?_
  have F20 := F16.same W19
  have F21 := (F17.wr W19)
  have F22 := (F15.other W19 (Or.inr (slot_ne (Or.inr (w22 G)) (Or.inr (w21 G)) (by decide) (t := .byte) (t' := (.array .byte)) (by decide) (by decide))))
  have F23 := ((F8.keep (Keep.of_wr W14) (ninS (Nat.ne_of_gt (Nat.lt_of_lt_of_le P0.lt (Nat.le_trans (Nat.le_refl _) g7))) nin0)).keep (Keep.of_wr W19) (ninS (Nat.ne_of_gt (Nat.lt_of_lt_of_le P0.lt (Nat.le_trans (Nat.le_refl _) g7))) nin0))
  exact W.vreturn X d_jdk_42_m149_57 rfl (by decide) (by decide) ⟨rfl, rfl, ⟨a5, (Keep.wr (Keep.wr (Keep.trans (Keep.refl h [x]) K6 all0) W14 (Or.inl (List.mem_of_getElem? (i := 0) rfl))) W19 (Or.inl (List.mem_of_getElem? (i := 0) rfl))), (Nat.le_trans (Nat.le_refl _) g7), ⟨F21, F22, F20, F23, P4⟩⟩⟩
abbrev c_init1_q (Z : State) (zC : Int32) (fS : Value) (e0 : Addr) (e1 : Addr) (e2 : Addr) (h : Heap) (B : Addr → Prop) (x a : Addr) (cs : List Int32) (v0 c0 : Value) (h' : Heap) : Prop := ∃ (t : Addr), Keep h h' [x] ∧ h.size ≤ t ∧ Str Z h' x t cs
def c_init1_rm : Room := { frames := 3, cells := 1, slots := 64, locals := 52 }
set_option maxRecDepth 65536 in
set_option maxHeartbeats 40000000 in
theorem c_init1 {l : Launch} {Z : State} {a0 : Array Value} {zC : Int32} {fS : Value} {e0 : Addr} {e1 : Addr} {e2 : Addr} {h : Heap} {B : Addr → Prop} {x a : Addr} {cs : List Int32} {v0 c0 : Value} (G : Gl Z a0 zC fS e0 e1 e2) (hE : En Z B h) (P0 : Exa Z h x "java/lang/String") (P1 : Fld Z h x "java/lang/String" "value" "[B" v0) (P2 : Fld Z h x "java/lang/String" "coder" "B" c0) (P3 : Ar Z h a .char (cs.map Value.int)) (P4 : Lat cs) (P5 : 0 < cs.length) (P6 : cs.length ≤ 64) (P7 : Z.heap.size ≤ x) (P8 : ¬ B x) : Con l Z consts_1 [] (⟨"java/lang/String", "<init>", "([C)V"⟩ : MethodName) jdk_42_method_3_code 2 none c_init1_rm B h #[(.ref x), (.ref a)] (fun vR hR BR => vR = none ∧ BR = B ∧ c_init1_q Z zC fS e0 e1 e2 h B x a cs v0 c0 hR) := by
  have hz0 := hE.1.1
  refine Con.intro (ls := #[.val (.ref x), .val (.ref a)]) (plainFor_of_name pn4) G.2.1 hE (fun m => by first | rfl | (simp [entryFrame, mkF, argsToLocals, Value.category]; done) | rfl) ?_
  intro p e s m below meth c T hs X
  refine W.aloadN (pc' := 1) X d_jdk_42_m3_0 rfl rfl rfl ?_
  refine W.aloadN (pc' := 2) X d_jdk_42_m3_1 rfl rfl rfl ?_
  refine W.iconst (pc' := 3) X (0 : Int32) d_jdk_42_m3_2 (by decide) rfl ?_
  refine W.aloadN (pc' := 4) X d_jdk_42_m3_3 rfl rfl rfl ?_
  refine W.alen (pc' := 5) (z := cs.length.toInt32) X P3 (by simp) d_jdk_42_m3_4 rfl ?_
  refine W.aconst_null (pc' := 6) X d_jdk_42_m3_5 rfl ?_
  have en1 := X.en
  refine W.callN (pc' := 9) (W := 0) (argsL := [(.ref a), (.int (0 : Int32)), (.int cs.length.toInt32), .null]) (st := []) (k' := 1) (n' := 64) (a := x) X (c_init4 (x := x) (a := a) (cs := cs) (v0 := v0) (c0 := c0) G X.en P0 P1 P2 P3 P4 P5 P6 P7 P8) rfl (w55 G) (w56 G) (w58 G) (w18 G) (by decide) (by decide) (by decide) rfl (lenOf pd5 rfl) rfl rfl (Nat.le_of_eq rfl) d_jdk_42_m3_6 rfl (by decide) (by decide) (by decide) (by decide) (kv fun T h2 X z3 q4 => ?_)
  obtain ⟨a5, K6, g7, F8⟩ := q4
  have g9 : Z.heap.size ≤ a5 := Nat.le_trans (Nat.le_trans hz0 (Nat.le_refl _)) g7
  have nb10 : ¬ B a5 := fun q => absurd (en1.2 _ q) (Nat.not_lt.mpr g7)
  exact W.vreturn X d_jdk_42_m3_9 rfl (by decide) (by decide) ⟨rfl, rfl, ⟨a5, (Keep.trans (Keep.refl h [x]) K6 (allS (Or.inl (List.mem_of_getElem? (i := 0) rfl)) all0)), (Nat.le_trans (Nat.le_refl _) g7), F8⟩⟩
def c_coder_rm : Room := { frames := 0, cells := 0, slots := 0, locals := 0 }
set_option maxRecDepth 65536 in
set_option maxHeartbeats 40000000 in
theorem c_coder {l : Launch} {Z : State} {a0 : Array Value} {zC : Int32} {fS : Value} {e0 : Addr} {e1 : Addr} {e2 : Addr} {h : Heap} {B : Addr → Prop} {a b : Addr} {cs : List Int32} (G : Gl Z a0 zC fS e0 e1 e2) (hE : En Z B h) (P0 : Str Z h a b cs) : Con l Z consts_1 [] (⟨"java/lang/String", "coder", "()B"⟩ : MethodName) jdk_42_method_152_code 1 (some .byte) c_coder_rm B h #[(.ref a)] (fun vR hR BR => vR = some (.int (0 : Int32)) ∧ hR = h ∧ BR = B) := by
  have hz0 := hE.1.1
  refine Con.intro (ls := #[.val (.ref a)]) (plainFor_of_name pn4) G.2.1 hE (fun m => by first | rfl | (simp [entryFrame, mkF, argsToLocals, Value.category]; done) | rfl) ?_
  intro p e s m below meth c T hs X
  refine W.getS (pc' := 3) (host := "") X (Or.inl (w35 G)) Via.refl G.2.2.1 d_jdk_42_m152_0 rfl fun T X => ?_
  refine W.ifF (pc' := 6) X d_jdk_42_m152_3 (XT.i0_eq_f G.2.2.2.1) rfl ?_
  refine W.aloadN (pc' := 7) X d_jdk_42_m152_6 rfl rfl rfl ?_
  refine W.getF (pc' := 10) X (w36 G) Via.refl P0.cod d_jdk_42_m152_7 rfl fun T X => ?_
  refine W.goto (pc' := 14) X d_jdk_42_m152_10 (by decide) (by decide) ?_
  exact W.ireturn X d_jdk_42_m152_14 rfl (by decide) (by decide) (by decide) (by decide) ⟨rfl, rfl, rfl⟩
def c_len_rm : Room := { frames := 1, cells := 0, slots := 0, locals := 13 }
set_option maxRecDepth 65536 in
set_option maxHeartbeats 40000000 in
theorem c_len {l : Launch} {Z : State} {a0 : Array Value} {zC : Int32} {fS : Value} {e0 : Addr} {e1 : Addr} {e2 : Addr} {h : Heap} {B : Addr → Prop} {a b : Addr} {cs : List Int32} (G : Gl Z a0 zC fS e0 e1 e2) (hE : En Z B h) (P0 : Str Z h a b cs) : Con l Z consts_1 [] (⟨"java/lang/String", "length", "()I"⟩ : MethodName) jdk_42_method_54_code 1 (some .int) c_len_rm B h #[(.ref a)] (fun vR hR BR => vR = some (.int cs.length.toInt32) ∧ hR = h ∧ BR = B) := by
  have hz0 := hE.1.1
  refine Con.intro (ls := #[.val (.ref a)]) (plainFor_of_name pn4) G.2.1 hE (fun m => by first | rfl | (simp [entryFrame, mkF, argsToLocals, Value.category]; done) | rfl) ?_
  intro p e s m below meth c T hs X
  refine W.aloadN (pc' := 1) X d_jdk_42_m54_0 rfl rfl rfl ?_
  refine W.getF (pc' := 4) X (w37 G) Via.refl P0.val d_jdk_42_m54_1 rfl fun T X => ?_
  refine W.alen (pc' := 5) (z := (cs).length.toInt32) X P0.arr (by simp) d_jdk_42_m54_4 rfl ?_
  refine W.aloadN (pc' := 6) X d_jdk_42_m54_5 rfl rfl rfl ?_
  refine W.callV (pc' := 9) (W := 1) (argsL := []) (st := [(.int (cs).length.toInt32)]) (k' := 0) (n' := 0) (a := a) X (c_coder (a := a) (b := b) (cs := cs) G X.en P0) (w92 G) (w93 G) (nfM (z' := (⟨"java/lang/String", "charAt", "(I)C"⟩ : MethodName)) rfl (w28 G)) (w95 G) (w94 G) P0.exa (w96 G) (w18 G) (by decide) (by decide) (by decide) rfl (lenOf pd6 rfl) rfl rfl (Nat.le_of_eq rfl) d_jdk_42_m54_6 rfl (by decide) (by decide) (by decide) (by decide) (kp fun T X => ?_)
  refine W.ishr (pc' := 10) (w := cs.length.toInt32) X d_jdk_42_m54_9 (shr0 _) rfl ?_
  exact W.ireturn X d_jdk_42_m54_10 rfl (by decide) rfl (by decide) (by decide) ⟨rfl, rfl, rfl⟩
def c_lat1_rm : Room := { frames := 0, cells := 0, slots := 0, locals := 0 }
set_option maxRecDepth 65536 in
set_option maxHeartbeats 40000000 in
theorem c_lat1 {l : Launch} {Z : State} {a0 : Array Value} {zC : Int32} {fS : Value} {e0 : Addr} {e1 : Addr} {e2 : Addr} {h : Heap} {B : Addr → Prop} {a b : Addr} {cs : List Int32} (G : Gl Z a0 zC fS e0 e1 e2) (hE : En Z B h) (P0 : Str Z h a b cs) : Con l Z consts_1 [] (⟨"java/lang/String", "isLatin1", "()Z"⟩ : MethodName) jdk_42_method_154_code 1 (some .boolean) c_lat1_rm B h #[(.ref a)] (fun vR hR BR => vR = some (.int (1 : Int32)) ∧ hR = h ∧ BR = B) := by
  have hz0 := hE.1.1
  refine Con.intro (ls := #[.val (.ref a)]) (plainFor_of_name pn4) G.2.1 hE (fun m => by first | rfl | (simp [entryFrame, mkF, argsToLocals, Value.category]; done) | rfl) ?_
  intro p e s m below meth c T hs X
  refine W.getS (pc' := 3) (host := "") X (Or.inl (w35 G)) Via.refl G.2.2.1 d_jdk_42_m154_0 rfl fun T X => ?_
  refine W.ifF (pc' := 6) X d_jdk_42_m154_3 (XT.i0_eq_f G.2.2.2.1) rfl ?_
  refine W.aloadN (pc' := 7) X d_jdk_42_m154_6 rfl rfl rfl ?_
  refine W.getF (pc' := 10) X (w36 G) Via.refl P0.cod d_jdk_42_m154_7 rfl fun T X => ?_
  refine W.ifF (pc' := 13) X d_jdk_42_m154_10 (by decide) rfl ?_
  refine W.iconst (pc' := 14) X (1 : Int32) d_jdk_42_m154_13 (by decide) rfl ?_
  refine W.goto (pc' := 18) X d_jdk_42_m154_14 (by decide) (by decide) ?_
  exact W.ireturn X d_jdk_42_m154_18 rfl (by decide) (by decide) (by decide) (by decide) ⟨rfl, rfl, rfl⟩
def c_chk_rm : Room := { frames := 0, cells := 0, slots := 0, locals := 0 }
set_option maxRecDepth 65536 in
set_option maxHeartbeats 40000000 in
theorem c_chk {l : Launch} {Z : State} {a0 : Array Value} {zC : Int32} {fS : Value} {e0 : Addr} {e1 : Addr} {e2 : Addr} {h : Heap} {B : Addr → Prop} {i n : Int32} {f : Value} (G : Gl Z a0 zC fS e0 e1 e2) (hE : En Z B h) (P0 : ¬ i < 0) (P1 : i < n) (P2 : f.isRef = true) : Con l Z consts_1 [] (⟨"jdk/internal/util/Preconditions", "checkIndex", "(IILjava/util/function/BiFunction;)I"⟩ : MethodName) jdk_41_method_11_code 3 (some .int) c_chk_rm B h #[(.int i), (.int n), f] (fun vR hR BR => vR = some (.int i) ∧ hR = h ∧ BR = B) := by
  have hz0 := hE.1.1
  refine Con.intro (ls := #[.val (.int i), .val (.int n), .val f]) (plainFor_of_name pn7) G.2.1 hE (fun m => by cases f <;> first | rfl | (exact absurd P2 (by simp [Value.isRef])) | first | rfl | (simp [entryFrame, mkF, argsToLocals, Value.category]; done) | rfl) ?_
  intro p e s m below meth c T hs X
  refine W.iloadN (pc' := 1) X d_jdk_41_m11_0 rfl rfl ?_
  refine W.ifF (pc' := 4) X d_jdk_41_m11_1 (XT.i0_lt_f P0) rfl ?_
  refine W.iloadN (pc' := 5) X d_jdk_41_m11_4 rfl rfl ?_
  refine W.iloadN (pc' := 6) X d_jdk_41_m11_5 rfl rfl ?_
  refine W.icT (pc' := 16) X d_jdk_41_m11_6 (XT.ii_lt_t P1) (by decide) (by decide) ?_
  refine W.iloadN (pc' := 17) X d_jdk_41_m11_16 rfl rfl ?_
  exact W.ireturn X d_jdk_41_m11_17 rfl (by decide) rfl (by decide) (by decide) ⟨rfl, rfl, rfl⟩
def c_schk_rm : Room := { frames := 1, cells := 0, slots := 0, locals := 14 }
set_option maxRecDepth 65536 in
set_option maxHeartbeats 40000000 in
theorem c_schk {l : Launch} {Z : State} {a0 : Array Value} {zC : Int32} {fS : Value} {e0 : Addr} {e1 : Addr} {e2 : Addr} {h : Heap} {B : Addr → Prop} {i n : Int32} (G : Gl Z a0 zC fS e0 e1 e2) (hE : En Z B h) (P0 : ¬ i < 0) (P1 : i < n) : Con l Z consts_1 [] (⟨"java/lang/String", "checkIndex", "(II)V"⟩ : MethodName) jdk_42_method_155_code 2 none c_schk_rm B h #[(.int i), (.int n)] (fun vR hR BR => vR = none ∧ hR = h ∧ BR = B) := by
  have hz0 := hE.1.1
  refine Con.intro (ls := #[.val (.int i), .val (.int n)]) (plainFor_of_name pn4) G.2.1 hE (fun m => by first | rfl | (simp [entryFrame, mkF, argsToLocals, Value.category]; done) | rfl) ?_
  intro p e s m below meth c T hs X
  refine W.iloadN (pc' := 1) X d_jdk_42_m155_0 rfl rfl ?_
  refine W.iloadN (pc' := 2) X d_jdk_42_m155_1 rfl rfl ?_
  refine W.getS (pc' := 5) (host := "") X (Or.inl (w45 G)) Via.refl G.2.2.2.2.1 d_jdk_42_m155_2 rfl fun T X => ?_
  refine W.callS (pc' := 8) (W := 0) (argsL := [(.int i), (.int n), fS]) (st := []) (k' := 0) (n' := 0) X (c_chk (i := i) (n := n) (f := fS) G X.en P0 P1 G.2.2.2.2.2.1) (w47 G) (w48 G) (w49 G) (w46 G) (by decide) (by decide) (by decide) rfl (lenOf pd8 rfl) rfl rfl (Nat.le_of_eq rfl) d_jdk_42_m155_5 rfl (by decide) (by decide) (by decide) (by decide) (kp fun T X => ?_)
  refine W.popV (pc' := 9) X d_jdk_42_m155_8 rfl rfl ?_
  exact W.vreturn X d_jdk_42_m155_9 rfl (by decide) (by decide) ⟨rfl, rfl, rfl⟩
def c_l1ch_rm : Room := { frames := 2, cells := 0, slots := 0, locals := 27 }
set_option maxRecDepth 65536 in
set_option maxHeartbeats 40000000 in
theorem c_l1ch {l : Launch} {Z : State} {a0 : Array Value} {zC : Int32} {fS : Value} {e0 : Addr} {e1 : Addr} {e2 : Addr} {h : Heap} {B : Addr → Prop} {b : Addr} {cs : List Int32} {i : Nat} (G : Gl Z a0 zC fS e0 e1 e2) (hE : En Z B h) (P0 : Ar Z h b .byte (by8 cs)) (P1 : Lat cs) (P2 : i < cs.length) : Con l Z consts_1 [] (⟨"java/lang/StringLatin1", "charAt", "([BI)C"⟩ : MethodName) jdk_43_method_2_code 2 (some .char) c_l1ch_rm B h #[(.ref b), (.int i.toInt32)] (fun vR hR BR => vR = some (.int (cs.getD i 0)) ∧ hR = h ∧ BR = B) := by
  have hz0 := hE.1.1
  refine Con.intro (ls := #[.val (.ref b), .val (.int i.toInt32)]) (plainFor_of_name pn10) G.2.1 hE (fun m => by first | rfl | (simp [entryFrame, mkF, argsToLocals, Value.category]; done) | rfl) ?_
  intro p e s m below meth c T hs X
  have hL := P0.len_lt; rw [List.length_map] at hL
  refine W.iloadN (pc' := 1) X d_jdk_43_m2_0 rfl rfl ?_
  refine W.aloadN (pc' := 2) X d_jdk_43_m2_1 rfl rfl rfl ?_
  refine W.alen (pc' := 3) (z := cs.length.toInt32) X P0 (by simp) d_jdk_43_m2_2 rfl ?_
  refine W.callS (pc' := 6) (W := 0) (argsL := [(.int i.toInt32), (.int cs.length.toInt32)]) (st := []) (k' := 0) (n' := 0) X (c_schk (i := i.toInt32) (n := cs.length.toInt32) G X.en (len32 (by omega)).1 ((lt32 (by omega) hL).mpr P2)) (w42 G) (w43 G) (w44 G) (w18 G) (by decide) (by decide) (by decide) rfl (lenOf pd9 rfl) rfl rfl (Nat.le_of_eq rfl) d_jdk_43_m2_3 rfl (by decide) (by decide) (by decide) (by decide) (kpv fun T X => ?_)
  refine W.aloadN (pc' := 7) X d_jdk_43_m2_6 rfl rfl rfl ?_
  refine W.iloadN (pc' := 8) X d_jdk_43_m2_7 rfl rfl ?_
  refine W.baload (pc' := 9) (v := (.int (cs.getD i 0).toInt8.toInt32)) X P0 (len32 (by omega)).1 (by8_get P2 hL) d_jdk_43_m2_8 rfl ?_
  refine W.sipush (pc' := 12) X (255 : Int32) d_jdk_43_m2_9 (by decide) rfl ?_
  refine W.iand (pc' := 13) (w := (cs.getD i 0)) X d_jdk_43_m2_12 (lo8m (P1.at P2)) rfl ?_
  refine W.i2c (pc' := 14) (w := (cs.getD i 0)) X d_jdk_43_m2_13 (i2cx (to16 (P1.at P2))) rfl ?_
  exact W.ireturn X d_jdk_43_m2_14 rfl (by decide) (narc (to16 (P1.at P2))) (by decide) (by decide) ⟨rfl, rfl, rfl⟩
def c_ch_rm : Room := { frames := 3, cells := 0, slots := 0, locals := 40 }
set_option maxRecDepth 65536 in
set_option maxHeartbeats 40000000 in
theorem c_ch {l : Launch} {Z : State} {a0 : Array Value} {zC : Int32} {fS : Value} {e0 : Addr} {e1 : Addr} {e2 : Addr} {h : Heap} {B : Addr → Prop} {a b : Addr} {cs : List Int32} {i : Nat} (G : Gl Z a0 zC fS e0 e1 e2) (hE : En Z B h) (P0 : Str Z h a b cs) (P1 : i < cs.length) : Con l Z consts_1 [] (⟨"java/lang/String", "charAt", "(I)C"⟩ : MethodName) jdk_42_method_56_code 2 (some .char) c_ch_rm B h #[(.ref a), (.int i.toInt32)] (fun vR hR BR => vR = some (.int (cs.getD i 0)) ∧ hR = h ∧ BR = B) := by
  have hz0 := hE.1.1
  refine Con.intro (ls := #[.val (.ref a), .val (.int i.toInt32)]) (plainFor_of_name pn4) G.2.1 hE (fun m => by first | rfl | (simp [entryFrame, mkF, argsToLocals, Value.category]; done) | rfl) ?_
  intro p e s m below meth c T hs X
  refine W.aloadN (pc' := 1) X d_jdk_42_m56_0 rfl rfl rfl ?_
  refine W.callV (pc' := 4) (W := 0) (argsL := []) (st := []) (k' := 0) (n' := 0) (a := a) X (c_lat1 (a := a) (b := b) (cs := cs) G X.en P0) (w30 G) (w31 G) (nfM (z' := (⟨"java/lang/String", "charAt", "(I)C"⟩ : MethodName)) rfl (w28 G)) (w33 G) (w32 G) P0.exa (w34 G) (w18 G) (by decide) (by decide) (by decide) rfl (lenOf pd11 rfl) rfl rfl (Nat.le_of_eq rfl) d_jdk_42_m56_1 rfl (by decide) (by decide) (by decide) (by decide) (kp fun T X => ?_)
  refine W.ifF (pc' := 7) X d_jdk_42_m56_4 (by decide) rfl ?_
  refine W.aloadN (pc' := 8) X d_jdk_42_m56_7 rfl rfl rfl ?_
  refine W.getF (pc' := 11) X (w37 G) Via.refl P0.val d_jdk_42_m56_8 rfl fun T X => ?_
  refine W.iloadN (pc' := 12) X d_jdk_42_m56_11 rfl rfl ?_
  refine W.callS (pc' := 15) (W := 0) (argsL := [(.ref b), (.int i.toInt32)]) (st := []) (k' := 0) (n' := 0) X (c_l1ch (b := b) (cs := cs) (i := i) G X.en P0.arr P0.lat P1) (w38 G) (w39 G) (w41 G) (w40 G) (by decide) (by decide) (by decide) rfl (lenOf pd12 rfl) rfl rfl (Nat.le_of_eq rfl) d_jdk_42_m56_12 rfl (by decide) (by decide) (by decide) (by decide) (kp fun T X => ?_)
  exact W.ireturn X d_jdk_42_m56_15 rfl (by decide) (narc (to16 (P0.lat.at P1))) (by decide) (by decide) ⟨rfl, rfl, rfl⟩
def c_l1eq_rm : Room := { frames := 0, cells := 0, slots := 0, locals := 0 }
set_option maxRecDepth 65536 in
set_option maxHeartbeats 40000000 in
theorem c_l1eq {l : Launch} {Z : State} {a0 : Array Value} {zC : Int32} {fS : Value} {e0 : Addr} {e1 : Addr} {e2 : Addr} {h : Heap} {B : Addr → Prop} {a b : Addr} {cs ds : List Int32} (G : Gl Z a0 zC fS e0 e1 e2) (hE : En Z B h) (P0 : Ar Z h a .byte (by8 cs)) (P1 : Ar Z h b .byte (by8 ds)) (P2 : Lat cs) (P3 : Lat ds) : Con l Z consts_1 [] (⟨"java/lang/StringLatin1", "equals", "([B[B)Z"⟩ : MethodName) jdk_43_method_13_code 3 (some .boolean) c_l1eq_rm B h #[(.ref a), (.ref b)] (fun vR hR BR => vR = some (.int (if cs = ds then (1 : Int32) else 0)) ∧ hR = h ∧ BR = B) := by
  have hz0 := hE.1.1
  refine Con.intro (ls := #[.val (.ref a), .val (.ref b), .unset]) (plainFor_of_name pn10) G.2.1 hE (fun m => by first | rfl | (simp [entryFrame, mkF, argsToLocals, Value.category]; done) | rfl) ?_
  intro p e s m below meth c T hs X
  have hc := P0.len_lt; rw [List.length_map] at hc
  have hd := P1.len_lt; rw [List.length_map] at hd
  refine W.aloadN (pc' := 1) X d_jdk_43_m13_0 rfl rfl rfl ?_
  refine W.alen (pc' := 2) (z := cs.length.toInt32) X P0 (by simp) d_jdk_43_m13_1 rfl ?_
  refine W.aloadN (pc' := 3) X d_jdk_43_m13_2 rfl rfl rfl ?_
  refine W.alen (pc' := 4) (z := ds.length.toInt32) X P1 (by simp) d_jdk_43_m13_3 rfl ?_
  by_cases hl : cs.length.toInt32 = ds.length.toInt32
  · skip
    refine W.icF (pc' := 7) X d_jdk_43_m13_4 (XT.ii_ne_f hl) rfl ?_
    refine W.iconst (pc' := 8) X (0 : Int32) d_jdk_43_m13_7 (by decide) rfl ?_
    refine W.istoreN (pc' := 9) (ls' := #[.val (.ref a), .val (.ref b), .val (.int (0 : Int32))]) X d_jdk_43_m13_8 rfl rfl ?_
    have hl' : cs.length = ds.length := (eq32 hc hd).mp hl
    have loop : ∀ (r i : Nat) (T : State), i + r = cs.length → cs.take i = ds.take i → Wk l Z consts_1 (⟨"java/lang/StringLatin1", "equals", "([B[B)Z"⟩ : MethodName) jdk_43_method_13_code 3 (some .boolean) c_l1eq_rm B p e s m #[(.ref a), (.ref b)] below meth c B T h 0 0 → Go l Z consts_1 c_l1eq_rm B (fun vR hR BR => vR = some (.int (if cs = ds then (1 : Int32) else 0)) ∧ hR = h ∧ BR = B) p e s m below T 9 #[.val (.ref a), .val (.ref b), .val (.int i.toInt32)] [] := by
      intro r
      induction r with
      | zero =>
        intro i T hi ht X
        obtain rfl : i = cs.length := by omega
        have hcd : cs = ds := by rw [List.take_of_length_le (Nat.le_refl _), List.take_of_length_le (by omega)] at ht; exact ht
        refine W.iloadN (pc' := 10) X d_jdk_43_m13_9 rfl rfl ?_
        refine W.aloadN (pc' := 11) X d_jdk_43_m13_10 rfl rfl rfl ?_
        refine W.alen (pc' := 12) (z := cs.length.toInt32) X P0 (by simp) d_jdk_43_m13_11 rfl ?_
        refine W.icT (pc' := 32) X d_jdk_43_m13_12 (XT.ii_ge_t (fun q => by rw [Int32.lt_iff_toInt_lt] at q; omega)) (by decide) (by decide) ?_
        refine W.iconst (pc' := 33) X (1 : Int32) d_jdk_43_m13_32 (by decide) rfl ?_
        exact W.ireturn X d_jdk_43_m13_33 rfl (by decide) (by decide) (by decide) (by decide) ⟨(by rw [if_pos hcd]), rfl, rfl⟩
      | succ r ih =>
        intro i T hi ht X
        have hi' : i < cs.length := by omega
        have hj' : i < ds.length := by omega
        refine W.iloadN (pc' := 10) X d_jdk_43_m13_9 rfl rfl ?_
        refine W.aloadN (pc' := 11) X d_jdk_43_m13_10 rfl rfl rfl ?_
        refine W.alen (pc' := 12) (z := cs.length.toInt32) X P0 (by simp) d_jdk_43_m13_11 rfl ?_
        refine W.icF (pc' := 15) X d_jdk_43_m13_12 (XT.ii_ge_f ((lt32 (by omega) hc).mpr hi')) rfl ?_
        refine W.aloadN (pc' := 16) X d_jdk_43_m13_15 rfl rfl rfl ?_
        refine W.iloadN (pc' := 17) X d_jdk_43_m13_16 rfl rfl ?_
        refine W.baload (pc' := 18) (v := (.int (cs.getD i 0).toInt8.toInt32)) X P0 (len32 (by omega)).1 (by8_get hi' hc) d_jdk_43_m13_17 rfl ?_
        refine W.aloadN (pc' := 19) X d_jdk_43_m13_18 rfl rfl rfl ?_
        refine W.iloadN (pc' := 20) X d_jdk_43_m13_19 rfl rfl ?_
        refine W.baload (pc' := 21) (v := (.int (ds.getD i 0).toInt8.toInt32)) X P1 (len32 (by omega)).1 (by8_get hj' hd) d_jdk_43_m13_20 rfl ?_
        by_cases he : (cs.getD i 0).toInt8.toInt32 = (ds.getD i 0).toInt8.toInt32
        · skip
          refine W.icT (pc' := 26) X d_jdk_43_m13_21 (XT.ii_eq_t he) (by decide) (by decide) ?_
          refine W.iinc (pc' := 29) (ls' := #[.val (.ref a), .val (.ref b), .val (.int (i + 1).toInt32)]) X (1 : Int32) (w := (i + 1).toInt32) d_jdk_43_m13_26 (by decide) rfl (t32s i) rfl rfl ?_
          refine W.goto (pc' := 9) X d_jdk_43_m13_29 (by decide) (by decide) ?_
          exact ih (i + 1) T (by omega) (take_step ht hi' hj' (lo8_inj (P2.at hi') (P3.at hj') he)) X
        · skip
          refine W.icF (pc' := 24) X d_jdk_43_m13_21 (XT.ii_eq_f he) rfl ?_
          refine W.iconst (pc' := 25) X (0 : Int32) d_jdk_43_m13_24 (by decide) rfl ?_
          exact W.ireturn X d_jdk_43_m13_25 rfl (by decide) (by decide) (by decide) (by decide) ⟨(by rw [if_neg (fun q => he (by rw [q]))]), rfl, rfl⟩
    exact loop cs.length 0 T (by omega) rfl X
  · skip
    refine W.icT (pc' := 34) X d_jdk_43_m13_4 (XT.ii_ne_t hl) (by decide) (by decide) ?_
    refine W.iconst (pc' := 35) X (0 : Int32) d_jdk_43_m13_34 (by decide) rfl ?_
    exact W.ireturn X d_jdk_43_m13_35 rfl (by decide) (by decide) (by decide) (by decide) ⟨(by rw [if_neg (fun q => hl (by rw [q]))]), rfl, rfl⟩
def c_eq_rm : Room := { frames := 1, cells := 0, slots := 0, locals := 14 }
set_option maxRecDepth 65536 in
set_option maxHeartbeats 40000000 in
theorem c_eq {l : Launch} {Z : State} {a0 : Array Value} {zC : Int32} {fS : Value} {e0 : Addr} {e1 : Addr} {e2 : Addr} {h : Heap} {B : Addr → Prop} {a b a' b' : Addr} {cs ds : List Int32} (G : Gl Z a0 zC fS e0 e1 e2) (hE : En Z B h) (P0 : Str Z h a b cs) (P1 : Str Z h a' b' ds) (P2 : a ≠ a') : Con l Z consts_1 [] (⟨"java/lang/String", "equals", "(Ljava/lang/Object;)Z"⟩ : MethodName) jdk_42_method_66_code 3 (some .boolean) c_eq_rm B h #[(.ref a), (.ref a')] (fun vR hR BR => vR = some (.int (if cs = ds then (1 : Int32) else 0)) ∧ hR = h ∧ BR = B) := by
  have hz0 := hE.1.1
  refine Con.intro (ls := #[.val (.ref a), .val (.ref a'), .unset]) (plainFor_of_name pn4) G.2.1 hE (fun m => by first | rfl | (simp [entryFrame, mkF, argsToLocals, Value.category]; done) | rfl) ?_
  intro p e s m below meth c T hs X
  refine W.aloadN (pc' := 1) X d_jdk_42_m66_0 rfl rfl rfl ?_
  refine W.aloadN (pc' := 2) X d_jdk_42_m66_1 rfl rfl rfl ?_
  refine W.acT (pc' := 7) X d_jdk_42_m66_2 rfl rfl (XT.aa_ne_t (fun q => P2 (Value.ref.inj q))) (by decide) (by decide) ?_
  refine W.aloadN (pc' := 8) X d_jdk_42_m66_7 rfl rfl rfl ?_
  refine W.instY (pc' := 11) X (w140 G) (Ins.self P1.exa) d_jdk_42_m66_8 rfl fun T X => ?_
  refine W.ifF (pc' := 14) X d_jdk_42_m66_11 (by decide) rfl ?_
  refine W.aloadN (pc' := 15) X d_jdk_42_m66_14 rfl rfl rfl ?_
  refine W.cast (pc' := 18) X (w140 G) (Ins.self P1.exa) d_jdk_42_m66_15 rfl fun T X => ?_
  refine W.astoreN (pc' := 19) (ls' := #[.val (.ref a), .val (.ref a'), .val (.ref a')]) X d_jdk_42_m66_18 rfl rfl rfl ?_
  refine W.getS (pc' := 22) (host := "") X (Or.inl (w35 G)) Via.refl G.2.2.1 d_jdk_42_m66_19 rfl fun T X => ?_
  refine W.ifF (pc' := 25) X d_jdk_42_m66_22 (XT.i0_eq_f G.2.2.2.1) rfl ?_
  refine W.aloadN (pc' := 26) X d_jdk_42_m66_25 rfl rfl rfl ?_
  refine W.getF (pc' := 29) X (w36 G) Via.refl P0.cod d_jdk_42_m66_26 rfl fun T X => ?_
  refine W.aloadN (pc' := 30) X d_jdk_42_m66_29 rfl rfl rfl ?_
  refine W.getF (pc' := 33) X (w36 G) Via.refl P1.cod d_jdk_42_m66_30 rfl fun T X => ?_
  refine W.icF (pc' := 36) X d_jdk_42_m66_33 (by decide) rfl ?_
  refine W.aloadN (pc' := 37) X d_jdk_42_m66_36 rfl rfl rfl ?_
  refine W.getF (pc' := 40) X (w37 G) Via.refl P0.val d_jdk_42_m66_37 rfl fun T X => ?_
  refine W.aloadN (pc' := 41) X d_jdk_42_m66_40 rfl rfl rfl ?_
  refine W.getF (pc' := 44) X (w37 G) Via.refl P1.val d_jdk_42_m66_41 rfl fun T X => ?_
  refine W.callS (pc' := 47) (W := 0) (argsL := [(.ref b), (.ref b')]) (st := []) (k' := 0) (n' := 0) X (c_l1eq (a := b) (b := b') (cs := cs) (ds := ds) G X.en P0.arr P1.arr P0.lat P1.lat) (w141 G) (w142 G) (w143 G) (w40 G) (by decide) (by decide) (by decide) rfl (lenOf pd13 rfl) rfl rfl (Nat.le_of_eq rfl) d_jdk_42_m66_44 rfl (by decide) (by decide) (by decide) (by decide) (kp fun T X => ?_)
  by_cases hq : (if cs = ds then (1 : Int32) else 0) = (0 : Int32)
  · skip
    refine W.ifT (pc' := 54) X d_jdk_42_m66_47 (XT.i0_eq_t hq) (by decide) (by decide) ?_
    refine W.iconst (pc' := 55) X (0 : Int32) d_jdk_42_m66_54 (by decide) rfl ?_
    exact W.ireturn X d_jdk_42_m66_55 rfl (by decide) (by decide) (by decide) (by decide) ⟨(by rw [if_neg (fun n => by rw [if_pos n] at hq; exact absurd hq (by decide))]), rfl, rfl⟩
  · skip
    refine W.ifF (pc' := 50) X d_jdk_42_m66_47 (XT.i0_eq_f hq) rfl ?_
    refine W.iconst (pc' := 51) X (1 : Int32) d_jdk_42_m66_50 (by decide) rfl ?_
    refine W.goto (pc' := 55) X d_jdk_42_m66_51 (by decide) (by decide) ?_
    exact W.ireturn X d_jdk_42_m66_55 rfl (by decide) (by decide) (by decide) (by decide) ⟨(by rw [if_pos (Classical.byContradiction fun n => hq (if_neg n))]), rfl, rfl⟩
def c_eqsame_rm : Room := { frames := 0, cells := 0, slots := 0, locals := 0 }
set_option maxRecDepth 65536 in
set_option maxHeartbeats 40000000 in
theorem c_eqsame {l : Launch} {Z : State} {a0 : Array Value} {zC : Int32} {fS : Value} {e0 : Addr} {e1 : Addr} {e2 : Addr} {h : Heap} {B : Addr → Prop} {a : Addr} (G : Gl Z a0 zC fS e0 e1 e2) (hE : En Z B h)  : Con l Z consts_1 [] (⟨"java/lang/String", "equals", "(Ljava/lang/Object;)Z"⟩ : MethodName) jdk_42_method_66_code 3 (some .boolean) c_eqsame_rm B h #[(.ref a), (.ref a)] (fun vR hR BR => vR = some (.int (1 : Int32)) ∧ hR = h ∧ BR = B) := by
  have hz0 := hE.1.1
  refine Con.intro (ls := #[.val (.ref a), .val (.ref a), .unset]) (plainFor_of_name pn4) G.2.1 hE (fun m => by first | rfl | (simp [entryFrame, mkF, argsToLocals, Value.category]; done) | rfl) ?_
  intro p e s m below meth c T hs X
  refine W.aloadN (pc' := 1) X d_jdk_42_m66_0 rfl rfl rfl ?_
  refine W.aloadN (pc' := 2) X d_jdk_42_m66_1 rfl rfl rfl ?_
  refine W.acF (pc' := 5) X d_jdk_42_m66_2 rfl rfl (XT.aa_ne_f rfl) rfl ?_
  refine W.iconst (pc' := 6) X (1 : Int32) d_jdk_42_m66_5 (by decide) rfl ?_
  exact W.ireturn X d_jdk_42_m66_6 rfl (by decide) (by decide) (by decide) (by decide) ⟨rfl, rfl, rfl⟩
def c_reqnnS_rm : Room := { frames := 0, cells := 0, slots := 0, locals := 0 }
set_option maxRecDepth 65536 in
set_option maxHeartbeats 40000000 in
theorem c_reqnnS {l : Launch} {Z : State} {a0 : Array Value} {zC : Int32} {fS : Value} {e0 : Addr} {e1 : Addr} {e2 : Addr} {h : Heap} {B : Addr → Prop} {a b : Addr} (G : Gl Z a0 zC fS e0 e1 e2) (hE : En Z B h)  : Con l Z consts_1 [] (⟨"java/util/Objects", "requireNonNull", "(Ljava/lang/Object;Ljava/lang/String;)Ljava/lang/Object;"⟩ : MethodName) jdk_31_method_11_code 2 (some (.object "java/lang/Object")) c_reqnnS_rm B h #[(.ref a), (.ref b)] (fun vR hR BR => vR = some (.ref a) ∧ hR = h ∧ BR = B) := by
  have hz0 := hE.1.1
  refine Con.intro (ls := #[.val (.ref a), .val (.ref b)]) (plainFor_of_name pn14) G.2.1 hE (fun m => by first | rfl | (simp [entryFrame, mkF, argsToLocals, Value.category]; done) | rfl) ?_
  intro p e s m below meth c T hs X
  refine W.aloadN (pc' := 1) X d_jdk_31_m11_0 rfl rfl rfl ?_
  refine W.nonnullT (pc' := 13) X d_jdk_31_m11_1 (by decide) (by decide) ?_
  refine W.aloadN (pc' := 14) X d_jdk_31_m11_13 rfl rfl rfl ?_
  exact W.areturn X d_jdk_31_m11_14 rfl rfl rfl rfl (by decide) (by decide) ⟨rfl, rfl, rfl⟩
def c_isSig_rm : Room := { frames := 4, cells := 0, slots := 0, locals := 53 }
set_option maxRecDepth 65536 in
set_option maxHeartbeats 40000000 in
theorem c_isSig {l : Launch} {Z : State} {a0 : Array Value} {zC : Int32} {fS : Value} {e0 : Addr} {e1 : Addr} {e2 : Addr} {h : Heap} {B : Addr → Prop} {q a b : Addr} {cs : List Int32} {dl : Int32} (G : Gl Z a0 zC fS e0 e1 e2) (hE : En Z B h) (P0 : Fld Z h q "com/example/campo_grande/campogrande/SignatureAlgorithm" "digestLength" "I" (.int dl)) (P1 : Str Z h a b cs) (P2 : cs.length.toInt32 = (2 : Int32) * dl) (P3 : ∀ c ∈ cs, HexC c) : Con l Z consts_1 [] (⟨"com/example/campo_grande/campogrande/SignatureAlgorithm", "isSignature", "(Ljava/lang/String;)Z"⟩ : MethodName) prog_25_method_6_code 4 (some .boolean) c_isSig_rm B h #[(.ref q), (.ref a)] (fun vR hR BR => vR = some (.int (1 : Int32)) ∧ hR = h ∧ BR = B) := by
  have hz0 := hE.1.1
  refine Con.intro (ls := #[.val (.ref q), .val (.ref a), .unset, .unset]) (plainFor_of_name pn17) G.2.1 hE (fun m => by first | rfl | (simp [entryFrame, mkF, argsToLocals, Value.category]; done) | rfl) ?_
  intro p e s m below meth c T hs X
  have hL := P1.len_lt
  refine W.aloadN (pc' := 1) X d_prog_25_m6_0 rfl rfl rfl ?_
  refine W.callV (pc' := 4) (W := 0) (argsL := []) (st := []) (k' := 0) (n' := 0) (a := a) X (c_len (a := a) (b := b) (cs := cs) G X.en P1) (w87 G) (w88 G) (nfM (z' := (⟨"java/lang/String", "charAt", "(I)C"⟩ : MethodName)) rfl (w28 G)) (w90 G) (w89 G) P1.exa (w91 G) (w18 G) (by decide) (by decide) (by decide) rfl (lenOf pd15 rfl) rfl rfl (Nat.le_of_eq rfl) d_prog_25_m6_1 rfl (by decide) (by decide) (by decide) (by decide) (kp fun T X => ?_)
  refine W.iconst (pc' := 5) X (2 : Int32) d_prog_25_m6_4 (by decide) rfl ?_
  refine W.aloadN (pc' := 6) X d_prog_25_m6_5 rfl rfl rfl ?_
  refine W.getF (pc' := 9) X (w97 G) Via.refl P0 d_prog_25_m6_6 rfl fun T X => ?_
  refine W.imul (pc' := 10) (w := ((2 : Int32) * dl)) X d_prog_25_m6_9 rfl rfl ?_
  refine W.icT (pc' := 15) X d_prog_25_m6_10 (XT.ii_eq_t P2) (by decide) (by decide) ?_
  refine W.iconst (pc' := 16) X (0 : Int32) d_prog_25_m6_15 (by decide) rfl ?_
  refine W.istoreN (pc' := 17) (ls' := #[.val (.ref q), .val (.ref a), .val (.int (0 : Int32)), .unset]) X d_prog_25_m6_16 rfl rfl ?_
  have loop : ∀ (r i : Nat) (T : State) (o : Slot), i + r = cs.length → (o = .unset ∨ ∃ x, o = .val (.int x)) → Wk l Z consts_1 (⟨"com/example/campo_grande/campogrande/SignatureAlgorithm", "isSignature", "(Ljava/lang/String;)Z"⟩ : MethodName) prog_25_method_6_code 4 (some .boolean) c_isSig_rm B p e s m #[(.ref q), (.ref a)] below meth c B T h 0 0 → Go l Z consts_1 c_isSig_rm B (fun vR hR BR => vR = some (.int (1 : Int32)) ∧ hR = h ∧ BR = B) p e s m below T 17 #[.val (.ref q), .val (.ref a), .val (.int i.toInt32), o] [] := by
    intro r
    induction r with
    | zero =>
      intro i T o hi ho X
      obtain rfl : i = cs.length := by omega
      refine W.iloadN (pc' := 18) X d_prog_25_m6_17 rfl rfl ?_
      refine W.aloadN (pc' := 19) X d_prog_25_m6_18 rfl rfl rfl ?_
      refine W.callV (pc' := 22) (W := 1) (argsL := []) (st := [(.int cs.length.toInt32)]) (k' := 0) (n' := 0) (a := a) X (c_len (a := a) (b := b) (cs := cs) G X.en P1) (w87 G) (w88 G) (nfM (z' := (⟨"java/lang/String", "charAt", "(I)C"⟩ : MethodName)) rfl (w28 G)) (w90 G) (w89 G) P1.exa (w91 G) (w18 G) (by decide) (by decide) (by decide) rfl (lenOf pd15 rfl) rfl rfl (Nat.le_of_eq rfl) d_prog_25_m6_19 rfl (by decide) (by decide) (by decide) (by decide) (kp fun T X => ?_)
      refine W.icT (pc' := 63) X d_prog_25_m6_22 (XT.ii_ge_t (fun q => by rw [Int32.lt_iff_toInt_lt] at q; omega)) (by decide) (by decide) ?_
      refine W.iconst (pc' := 64) X (1 : Int32) d_prog_25_m6_63 (by decide) rfl ?_
      exact W.ireturn X d_prog_25_m6_64 rfl (by decide) (by decide) (by decide) (by decide) ⟨rfl, rfl, rfl⟩
    | succ r ih =>
      intro i T o hi ho X
      have hi' : i < cs.length := by omega
      have hx := hex_at P3 hi'
      have hlat := P1.lat.at hi'
      obtain ⟨cc, hcc⟩ : ∃ z, z = cs.getD i 0 := ⟨_, rfl⟩
      rcases ho with rfl | ⟨x0, rfl⟩
      all_goals
        refine W.iloadN (pc' := 18) X d_prog_25_m6_17 rfl rfl ?_
        refine W.aloadN (pc' := 19) X d_prog_25_m6_18 rfl rfl rfl ?_
        refine W.callV (pc' := 22) (W := 1) (argsL := []) (st := [(.int i.toInt32)]) (k' := 0) (n' := 0) (a := a) X (c_len (a := a) (b := b) (cs := cs) G X.en P1) (w87 G) (w88 G) (nfM (z' := (⟨"java/lang/String", "charAt", "(I)C"⟩ : MethodName)) rfl (w28 G)) (w90 G) (w89 G) P1.exa (w91 G) (w18 G) (by decide) (by decide) (by decide) rfl (lenOf pd15 rfl) rfl rfl (Nat.le_of_eq rfl) d_prog_25_m6_19 rfl (by decide) (by decide) (by decide) (by decide) (kp fun T X => ?_)
        refine W.icF (pc' := 25) X d_prog_25_m6_22 (XT.ii_ge_f ((lt32 (by omega) hL).mpr hi')) rfl ?_
        refine W.aloadN (pc' := 26) X d_prog_25_m6_25 rfl rfl rfl ?_
        refine W.iloadN (pc' := 27) X d_prog_25_m6_26 rfl rfl ?_
        refine W.callV (pc' := 30) (W := 0) (argsL := [(.int i.toInt32)]) (st := []) (k' := 0) (n' := 0) (a := a) X (c_ch (a := a) (b := b) (cs := cs) (i := i) G X.en P1 hi') (w99 G) (w26 G) (nfM (z' := (⟨"java/lang/String", "charAt", "(I)C"⟩ : MethodName)) rfl (w28 G)) (w28 G) (w27 G) P1.exa (w29 G) (w18 G) (by decide) (by decide) (by decide) rfl (lenOf pd16 rfl) rfl rfl (Nat.le_of_eq rfl) d_prog_25_m6_27 rfl (by decide) (by decide) (by decide) (by decide) (kp fun T X => ?_)
        refine W.istoreN (pc' := 31) (ls' := #[.val (.ref q), .val (.ref a), .val (.int i.toInt32), .val (.int (cs.getD i 0))]) X d_prog_25_m6_30 rfl rfl ?_
        refine W.iloadN (pc' := 32) X d_prog_25_m6_31 rfl rfl ?_
        refine W.bipush (pc' := 34) X (48 : Int32) d_prog_25_m6_32 (by decide) rfl ?_
        by_cases h48 : (cs.getD i 0) < (48 : Int32)
        · skip
          refine W.icT (pc' := 43) X d_prog_25_m6_34 (XT.ii_lt_t h48) (by decide) (by decide) ?_
          refine W.iloadN (pc' := 44) X d_prog_25_m6_43 rfl rfl ?_
          refine W.bipush (pc' := 46) X (97 : Int32) d_prog_25_m6_44 (by decide) rfl ?_
          refine W.icF (pc' := 49) X d_prog_25_m6_46 (XT.ii_lt_f (fun q => by rw [Int32.lt_iff_toInt_lt] at q h48; have e1 : (48 : Int32).toInt = 48 := rfl; have e2 : (97 : Int32).toInt = 97 := rfl; rcases hx with z | z <;> omega)) rfl ?_
          refine W.iloadN (pc' := 50) X d_prog_25_m6_49 rfl rfl ?_
          refine W.bipush (pc' := 52) X (102 : Int32) d_prog_25_m6_50 (by decide) rfl ?_
          refine W.icT (pc' := 57) X d_prog_25_m6_52 (XT.ii_le_t (fun q => by rw [Int32.lt_iff_toInt_lt] at q h48; have e1 : (48 : Int32).toInt = 48 := rfl; have e2 : (102 : Int32).toInt = 102 := rfl; rcases hx with z | z <;> omega)) (by decide) (by decide) ?_
          refine W.iinc (pc' := 60) (ls' := #[.val (.ref q), .val (.ref a), .val (.int (i + 1).toInt32), .val (.int (cs.getD i 0))]) X (1 : Int32) (w := (i + 1).toInt32) d_prog_25_m6_57 (by decide) rfl (t32s i) rfl rfl ?_
          refine W.goto (pc' := 17) X d_prog_25_m6_60 (by decide) (by decide) ?_
          exact ih (i + 1) T _ (by omega) (Or.inr ⟨_, rfl⟩) X
        · skip
          refine W.icF (pc' := 37) X d_prog_25_m6_34 (XT.ii_lt_f h48) rfl ?_
          refine W.iloadN (pc' := 38) X d_prog_25_m6_37 rfl rfl ?_
          refine W.bipush (pc' := 40) X (57 : Int32) d_prog_25_m6_38 (by decide) rfl ?_
          by_cases h57 : (57 : Int32) < (cs.getD i 0)
          · skip
            refine W.icF (pc' := 43) X d_prog_25_m6_40 (XT.ii_le_f h57) rfl ?_
            refine W.iloadN (pc' := 44) X d_prog_25_m6_43 rfl rfl ?_
            refine W.bipush (pc' := 46) X (97 : Int32) d_prog_25_m6_44 (by decide) rfl ?_
            refine W.icF (pc' := 49) X d_prog_25_m6_46 (XT.ii_lt_f (fun q => by rw [Int32.lt_iff_toInt_lt] at q h57; have e1 : (57 : Int32).toInt = 57 := rfl; have e2 : (97 : Int32).toInt = 97 := rfl; rcases hx with z | z <;> omega)) rfl ?_
            refine W.iloadN (pc' := 50) X d_prog_25_m6_49 rfl rfl ?_
            refine W.bipush (pc' := 52) X (102 : Int32) d_prog_25_m6_50 (by decide) rfl ?_
            refine W.icT (pc' := 57) X d_prog_25_m6_52 (XT.ii_le_t (fun q => by rw [Int32.lt_iff_toInt_lt] at q h57; have e1 : (57 : Int32).toInt = 57 := rfl; have e2 : (102 : Int32).toInt = 102 := rfl; rcases hx with z | z <;> omega)) (by decide) (by decide) ?_
            refine W.iinc (pc' := 60) (ls' := #[.val (.ref q), .val (.ref a), .val (.int (i + 1).toInt32), .val (.int (cs.getD i 0))]) X (1 : Int32) (w := (i + 1).toInt32) d_prog_25_m6_57 (by decide) rfl (t32s i) rfl rfl ?_
            refine W.goto (pc' := 17) X d_prog_25_m6_60 (by decide) (by decide) ?_
            exact ih (i + 1) T _ (by omega) (Or.inr ⟨_, rfl⟩) X
          · skip
            refine W.icT (pc' := 57) X d_prog_25_m6_40 (XT.ii_le_t h57) (by decide) (by decide) ?_
            refine W.iinc (pc' := 60) (ls' := #[.val (.ref q), .val (.ref a), .val (.int (i + 1).toInt32), .val (.int (cs.getD i 0))]) X (1 : Int32) (w := (i + 1).toInt32) d_prog_25_m6_57 (by decide) rfl (t32s i) rfl rfl ?_
            refine W.goto (pc' := 17) X d_prog_25_m6_60 (by decide) (by decide) ?_
            exact ih (i + 1) T _ (by omega) (Or.inr ⟨_, rfl⟩) X
  exact loop cs.length 0 T .unset (by omega) (Or.inl rfl) X
abbrev c_key_q (Z : State) (zC : Int32) (fS : Value) (e0 : Addr) (e1 : Addr) (e2 : Addr) (h : Heap) (B : Addr → Prop) (x q a b : Addr) (cs : List Int32) (dl vo ov : Int32) (v0 v1 v2 v3 : Value) (h' : Heap) (B' : Addr → Prop) : Prop := Keep h h' [x] ∧ Fld Z h' x "com/example/campo_grande/campogrande/ContentKey" "volume" "I" (.int vo) ∧ Fld Z h' x "com/example/campo_grande/campogrande/ContentKey" "algorithm" "Lcom/example/campo_grande/campogrande/SignatureAlgorithm;" (.ref q) ∧ Fld Z h' x "com/example/campo_grande/campogrande/ContentKey" "signature" "Ljava/lang/String;" (.ref a) ∧ Fld Z h' x "com/example/campo_grande/campogrande/ContentKey" "overflow" "I" (.int ov)
def c_key_rm : Room := { frames := 5, cells := 4, slots := 80, locals := 68 }
set_option maxRecDepth 65536 in
set_option maxHeartbeats 40000000 in
theorem c_key {l : Launch} {Z : State} {a0 : Array Value} {zC : Int32} {fS : Value} {e0 : Addr} {e1 : Addr} {e2 : Addr} {h : Heap} {B : Addr → Prop} {x q a b : Addr} {cs : List Int32} {dl vo ov : Int32} {v0 v1 v2 v3 : Value} (G : Gl Z a0 zC fS e0 e1 e2) (hE : En Z B h) (P0 : Exa Z h x "com/example/campo_grande/campogrande/ContentKey") (P1 : Fld Z h x "com/example/campo_grande/campogrande/ContentKey" "volume" "I" v0) (P2 : Fld Z h x "com/example/campo_grande/campogrande/ContentKey" "algorithm" "Lcom/example/campo_grande/campogrande/SignatureAlgorithm;" v1) (P3 : Fld Z h x "com/example/campo_grande/campogrande/ContentKey" "signature" "Ljava/lang/String;" v2) (P4 : Fld Z h x "com/example/campo_grande/campogrande/ContentKey" "overflow" "I" v3) (P5 : Exa Z h q "com/example/campo_grande/campogrande/SignatureAlgorithm") (P6 : Fld Z h q "com/example/campo_grande/campogrande/SignatureAlgorithm" "digestLength" "I" (.int dl)) (P7 : Str Z h a b cs) (P8 : cs.length.toInt32 = (2 : Int32) * dl) (P9 : ∀ c ∈ cs, HexC c) (P10 : ¬ vo < 0) (P11 : ¬ ov < 0) (P12 : Z.heap.size ≤ x) (P13 : ¬ B x) (P14 : x ≠ q) (P15 : x ≠ a) (P16 : x ≠ b) : Con l Z consts_1 [] (⟨"com/example/campo_grande/campogrande/ContentKey", "<init>", "(ILcom/example/campo_grande/campogrande/SignatureAlgorithm;Ljava/lang/String;I)V"⟩ : MethodName) prog_13_method_1_code 5 none c_key_rm B h #[(.ref x), (.int vo), (.ref q), (.ref a), (.int ov)] (fun vR hR BR => vR = none ∧ c_key_q Z zC fS e0 e1 e2 h B x q a b cs dl vo ov v0 v1 v2 v3 hR BR) := by
  have hz0 := hE.1.1
  refine Con.intro (ls := #[.val (.ref x), .val (.int vo), .val (.ref q), .val (.ref a), .val (.int ov)]) (plainFor_of_name pn20) G.2.1 hE (fun m => by first | rfl | (simp [entryFrame, mkF, argsToLocals, Value.category]; done) | rfl) ?_
  intro p e s m below meth c T hs X
  refine W.aloadN (pc' := 1) X d_prog_13_m1_0 rfl rfl rfl ?_
  refine W.initO (pc' := 4) (W := 0) X (w75 G) (w60 G) (w61 G) d_prog_13_m1_1 rfl (by decide) (Nat.le_of_eq rfl) (by decide) rfl fun T X => ?_
  refine W.aloadN (pc' := 5) X d_prog_13_m1_4 rfl rfl rfl ?_
  refine W.ldcO (pc' := 7) (k' := 2) (n' := 40) (cap := 36) X G.2.1 (w76 G) (watoms G) d_prog_13_m1_5 (by decide) (by decide) rfl (by decide) (by decide) (by decide) (by decide) fun T h1 B5 a2 X K3 zb4 => ?_
  refine W.callS (pc' := 10) (W := 0) (argsL := [(.ref q), (.ref a2)]) (st := []) (k' := 2) (n' := 40) X (c_reqnnS (a := q) (b := a2) G X.en) (w77 G) (w78 G) (w80 G) (w79 G) (by decide) (by decide) (by decide) rfl (lenOf pd18 rfl) rfl rfl (Nat.le_of_eq rfl) d_prog_13_m1_7 rfl (by decide) (by decide) (by decide) (by decide) (kp fun T X => ?_)
  refine W.popV (pc' := 11) X d_prog_13_m1_10 rfl rfl ?_
  refine W.aloadN (pc' := 12) X d_prog_13_m1_11 rfl rfl rfl ?_
  refine W.ldcO (pc' := 14) (k' := 4) (n' := 80) (cap := 36) X G.2.1 (w81 G) (watoms G) d_prog_13_m1_12 (by decide) (by decide) rfl (by decide) (by decide) (by decide) (by decide) fun T h6 B10 a7 X K8 zb9 => ?_
  refine W.callS (pc' := 17) (W := 0) (argsL := [(.ref a), (.ref a7)]) (st := []) (k' := 4) (n' := 80) X (c_reqnnS (a := a) (b := a7) G X.en) (w77 G) (w78 G) (w80 G) (w79 G) (by decide) (by decide) (by decide) rfl (lenOf pd18 rfl) rfl rfl (Nat.le_of_eq rfl) d_prog_13_m1_14 rfl (by decide) (by decide) (by decide) (by decide) (kp fun T X => ?_)
  refine W.popV (pc' := 18) X d_prog_13_m1_17 rfl rfl ?_
  refine W.iloadN (pc' := 19) X d_prog_13_m1_18 rfl rfl ?_
  refine W.ifT (pc' := 28) X d_prog_13_m1_19 (XT.i0_ge_t P10) (by decide) (by decide) ?_
  refine W.aloadN (pc' := 29) X d_prog_13_m1_28 rfl rfl rfl ?_
  refine W.aloadN (pc' := 30) X d_prog_13_m1_29 rfl rfl rfl ?_
  have F11 := ((P5.keep K3).keep K8)
  have F12 := ((P6.keep K3 nin0).keep K8 nin0)
  have F13 := ((P7.keep K3 nin0 nin0).keep K8 nin0 nin0)
  refine W.callV (pc' := 33) (W := 0) (argsL := [(.ref a)]) (st := []) (k' := 4) (n' := 80) (a := q) X (c_isSig (q := q) (a := a) (b := b) (cs := cs) (dl := dl) G X.en F12 F13 P8 P9) (w82 G) (w83 G) (nfM (z' := (⟨"com/example/campo_grande/campogrande/SignatureAlgorithm", "isSignature", "(Ljava/lang/String;)Z"⟩ : MethodName)) rfl (w85 G)) (w85 G) (w84 G) F11 (w86 G) (w9 G) (by decide) (by decide) (by decide) rfl (lenOf pd19 rfl) rfl rfl (Nat.le_of_eq rfl) d_prog_13_m1_30 rfl (by decide) (by decide) (by decide) (by decide) (kp fun T X => ?_)
  refine W.ifT (pc' := 55) X d_prog_13_m1_33 (by decide) (by decide) (by decide) ?_
  refine W.iload (pc' := 57) X d_prog_13_m1_55 rfl rfl ?_
  refine W.ifT (pc' := 66) X d_prog_13_m1_57 (XT.i0_ge_t P11) (by decide) (by decide) ?_
  refine W.aloadN (pc' := 67) X d_prog_13_m1_66 rfl rfl rfl ?_
  refine W.iloadN (pc' := 68) X d_prog_13_m1_67 rfl rfl ?_
  have F14 := ((P1.keep K3 nin0).keep K8 nin0)
  have F15 := ((P0.keep K3).keep K8)
  have nb19 : ¬ B5 x := fun q => (zb4 _ q).elim P13 (fun r => absurd (Nat.lt_of_lt_of_le P0.lt (Nat.le_refl _)) (Nat.not_lt.mpr r))
  have nb20 : ¬ B10 x := fun q => (zb9 _ q).elim nb19 (fun r => absurd (Nat.lt_of_lt_of_le P0.lt K3.1) (Nat.not_lt.mpr r))
  refine W.putF (pc' := 71) X (w100 G) Via.refl F14 F15 (Or.inr ⟨(w101 G), rfl, rfl⟩) (w1 G) (ty := .int) (by decide) rfl rfl P12 nb20 d_prog_13_m1_68 rfl fun T h16 X W17 => ?_
  have F18 := F14.same W17
  refine W.aloadN (pc' := 72) X d_prog_13_m1_71 rfl rfl rfl ?_
  refine W.aloadN (pc' := 73) X d_prog_13_m1_72 rfl rfl rfl ?_
  have F21 := (((P2.keep K3 nin0).keep K8 nin0).other W17 (Or.inr (slot_ne (Or.inr (w103 G)) (Or.inr (w101 G)) (by decide) (t := (.object "com/example/campo_grande/campogrande/SignatureAlgorithm")) (t' := .int) (by decide) (by decide))))
  have F22 := (F15.wr W17)
  refine W.putF (pc' := 76) X (w102 G) Via.refl F21 F22 (Or.inr ⟨(w103 G), rfl, rfl⟩) (w1 G) (ty := (.object "com/example/campo_grande/campogrande/SignatureAlgorithm")) (by decide) rfl rfl P12 nb20 d_prog_13_m1_73 rfl fun T h23 X W24 => ?_
  have F25 := F21.same W24
  refine W.aloadN (pc' := 77) X d_prog_13_m1_76 rfl rfl rfl ?_
  refine W.aloadN (pc' := 78) X d_prog_13_m1_77 rfl rfl rfl ?_
  have F26 := ((((P3.keep K3 nin0).keep K8 nin0).other W17 (Or.inr (slot_ne (Or.inr (w105 G)) (Or.inr (w101 G)) (by decide) (t := (.object "java/lang/String")) (t' := .int) (by decide) (by decide)))).other W24 (Or.inr (slot_ne (Or.inr (w105 G)) (Or.inr (w103 G)) (by decide) (t := (.object "java/lang/String")) (t' := (.object "com/example/campo_grande/campogrande/SignatureAlgorithm")) (by decide) (by decide))))
  have F27 := (F22.wr W24)
  refine W.putF (pc' := 81) X (w104 G) Via.refl F26 F27 (Or.inr ⟨(w105 G), rfl, rfl⟩) (w1 G) (ty := (.object "java/lang/String")) (by decide) rfl rfl P12 nb20 d_prog_13_m1_78 rfl fun T h28 X W29 => ?_
  have F30 := F26.same W29
  refine W.aloadN (pc' := 82) X d_prog_13_m1_81 rfl rfl rfl ?_
  refine W.iload (pc' := 84) X d_prog_13_m1_82 rfl rfl ?_
  have F31 := (((((P4.keep K3 nin0).keep K8 nin0).other W17 (Or.inr (slot_ne (Or.inr (w107 G)) (Or.inr (w101 G)) (by decide) (t := .int) (t' := .int) (by decide) (by decide)))).other W24 (Or.inr (slot_ne (Or.inr (w107 G)) (Or.inr (w103 G)) (by decide) (t := .int) (t' := (.object "com/example/campo_grande/campogrande/SignatureAlgorithm")) (by decide) (by decide)))).other W29 (Or.inr (slot_ne (Or.inr (w107 G)) (Or.inr (w105 G)) (by decide) (t := .int) (t' := (.object "java/lang/String")) (by decide) (by decide))))
  have F32 := (F27.wr W29)
  refine W.putF (pc' := 87) X (w106 G) Via.refl F31 F32 (Or.inr ⟨(w107 G), rfl, rfl⟩) (w1 G) (ty := .int) (by decide) rfl rfl P12 nb20 d_prog_13_m1_84 rfl fun T h33 X W34 => ?_
  have F35 := F31.same W34
  have F36 := (((F18.other W24 (Or.inr (slot_ne (Or.inr (w101 G)) (Or.inr (w103 G)) (by decide) (t := .int) (t' := (.object "com/example/campo_grande/campogrande/SignatureAlgorithm")) (by decide) (by decide)))).other W29 (Or.inr (slot_ne (Or.inr (w101 G)) (Or.inr (w105 G)) (by decide) (t := .int) (t' := (.object "java/lang/String")) (by decide) (by decide)))).other W34 (Or.inr (slot_ne (Or.inr (w101 G)) (Or.inr (w107 G)) (by decide) (t := .int) (t' := .int) (by decide) (by decide))))
  have F37 := ((F25.other W29 (Or.inr (slot_ne (Or.inr (w103 G)) (Or.inr (w105 G)) (by decide) (t := (.object "com/example/campo_grande/campogrande/SignatureAlgorithm")) (t' := (.object "java/lang/String")) (by decide) (by decide)))).other W34 (Or.inr (slot_ne (Or.inr (w103 G)) (Or.inr (w107 G)) (by decide) (t := (.object "com/example/campo_grande/campogrande/SignatureAlgorithm")) (t' := .int) (by decide) (by decide))))
  have F38 := (F30.other W34 (Or.inr (slot_ne (Or.inr (w105 G)) (Or.inr (w107 G)) (by decide) (t := (.object "java/lang/String")) (t' := .int) (by decide) (by decide))))
  exact W.vreturn X d_prog_13_m1_87 rfl (by decide) (by decide) ⟨rfl, ⟨(Keep.wr (Keep.wr (Keep.wr (Keep.wr (Keep.trans (Keep.trans (Keep.refl h [x]) K3 all0) K8 all0) W17 (Or.inl (List.mem_of_getElem? (i := 0) rfl))) W24 (Or.inl (List.mem_of_getElem? (i := 0) rfl))) W29 (Or.inl (List.mem_of_getElem? (i := 0) rfl))) W34 (Or.inl (List.mem_of_getElem? (i := 0) rfl))), F36, F37, F38, F35⟩⟩
abbrev c_hex_q (Z : State) (zC : Int32) (fS : Value) (e0 : Addr) (e1 : Addr) (e2 : Addr) (h : Heap) (B : Addr → Prop) (n : Int32) (xR : Value) (h' : Heap) (B' : Addr → Prop) : Prop := ∃ (c : Int32), xR = (.int c) ∧ Keep h h' [] ∧ c = hexc n
def c_hex_rm : Room := { frames := 4, cells := 2, slots := 68, locals := 53 }
set_option maxRecDepth 65536 in
set_option maxHeartbeats 40000000 in
theorem c_hex {l : Launch} {Z : State} {a0 : Array Value} {zC : Int32} {fS : Value} {e0 : Addr} {e1 : Addr} {e2 : Addr} {h : Heap} {B : Addr → Prop} {n : Int32} (G : Gl Z a0 zC fS e0 e1 e2) (hE : En Z B h)  : Con l Z consts_1 [] (⟨"com/example/campo_grande/campogrande/PayloadDigestNamesPinLaw", "hex", "(I)C"⟩ : MethodName) method_4_code 1 (some .char) c_hex_rm B h #[(.int n)] (fun vR hR BR => ∃ xR, vR = some xR ∧ c_hex_q Z zC fS e0 e1 e2 h B n xR hR BR) := by
  have hz0 := hE.1.1
  refine Con.intro (ls := #[.val (.int n)]) (plainFor_of_name pn21) G.2.1 hE (fun m => by first | rfl | (simp [entryFrame, mkF, argsToLocals, Value.category]; done) | rfl) ?_
  intro p e s m below meth c T hs X
  refine W.ldcR (pc' := 2) (k' := 2) (n' := 68) (cap := 64) (cs := [(48 : Int32), (49 : Int32), (50 : Int32), (51 : Int32), (52 : Int32), (53 : Int32), (54 : Int32), (55 : Int32), (56 : Int32), (57 : Int32), (97 : Int32), (98 : Int32), (99 : Int32), (100 : Int32), (101 : Int32), (102 : Int32)]) X (by decide) (w17 G) (watoms G) G.2.1 ⟨by decide, by decide⟩ (by unfold Lat; decide) (by decide) d_m4_0 (by decide) (by decide) rfl (by decide) (by decide) (by decide) (by decide) fun T h1 B5 a2 a6 X K3 zb4 S7 ne8 => ?_
  refine W.iloadN (pc' := 3) X d_m4_2 rfl rfl ?_
  refine W.bipush (pc' := 5) X (15 : Int32) d_m4_3 (by decide) rfl ?_
  refine W.iand (pc' := 6) (w := (n &&& (15 : Int32)).toNatClampNeg.toInt32) X d_m4_5 (back32 (nn15 n)).1.symm rfl ?_
  refine W.callV (pc' := 9) (W := 0) (argsL := [(.int (n &&& (15 : Int32)).toNatClampNeg.toInt32)]) (st := []) (k' := 2) (n' := 68) (a := a2) X (c_ch (a := a2) (b := a6) (cs := [(48 : Int32), (49 : Int32), (50 : Int32), (51 : Int32), (52 : Int32), (53 : Int32), (54 : Int32), (55 : Int32), (56 : Int32), (57 : Int32), (97 : Int32), (98 : Int32), (99 : Int32), (100 : Int32), (101 : Int32), (102 : Int32)]) (i := (n &&& (15 : Int32)).toNatClampNeg) G X.en S7 (lt16 n)) (w25 G) (w26 G) (nfM (z' := (⟨"java/lang/String", "charAt", "(I)C"⟩ : MethodName)) rfl (w28 G)) (w28 G) (w27 G) S7.exa (w29 G) (w18 G) (by decide) (by decide) (by decide) rfl (lenOf pd16 rfl) rfl rfl (Nat.le_of_eq rfl) d_m4_6 rfl (by decide) (by decide) (by decide) (by decide) (kp fun T X => ?_)
  exact W.ireturn X d_m4_9 rfl (by decide) (narc (to16 (hexc_rng n))) (by decide) (by decide) ⟨_, rfl, ⟨(hexc n), rfl, (Keep.trans (Keep.refl h []) K3 all0), rfl⟩⟩
def c_alg_rm : Room := { frames := 0, cells := 0, slots := 0, locals := 0 }
set_option maxRecDepth 65536 in
set_option maxHeartbeats 40000000 in
theorem c_alg {l : Launch} {Z : State} {a0 : Array Value} {zC : Int32} {fS : Value} {e0 : Addr} {e1 : Addr} {e2 : Addr} {h : Heap} {B : Addr → Prop} {i : Int32} (G : Gl Z a0 zC fS e0 e1 e2) (hE : En Z B h)  : Con l Z consts_1 [] (⟨"com/example/campo_grande/campogrande/PayloadDigestNamesPinLaw", "alg", "(I)Lcom/example/campo_grande/campogrande/SignatureAlgorithm;"⟩ : MethodName) method_3_code 1 (some (.object "com/example/campo_grande/campogrande/SignatureAlgorithm")) c_alg_rm B h #[(.int i)] (fun vR hR BR => vR = some (.ref (eOf e0 e1 e2 i)) ∧ hR = h ∧ BR = B) := by
  have hz0 := hE.1.1
  refine Con.intro (ls := #[.val (.int i)]) (plainFor_of_name pn21) G.2.1 hE (fun m => by first | rfl | (simp [entryFrame, mkF, argsToLocals, Value.category]; done) | rfl) ?_
  intro p e s m below meth c T hs X
  refine W.iloadN (pc' := 1) X d_m3_0 rfl rfl ?_
  by_cases hi0 : i = (0 : Int32)
  · skip
    refine W.ifF (pc' := 4) X d_m3_1 (XT.i0_ne_f hi0) rfl ?_
    refine W.getS (pc' := 7) (host := "") X (Or.inl (w8 G)) Via.refl G.2.2.2.2.2.2.1 d_m3_4 rfl fun T X => ?_
    exact W.areturn X d_m3_7 rfl rfl rfl rfl (by decide) (by decide) ⟨(by rw [eOf, if_pos hi0]), rfl, rfl⟩
  · skip
    refine W.ifT (pc' := 8) X d_m3_1 (XT.i0_ne_t hi0) (by decide) (by decide) ?_
    refine W.iloadN (pc' := 9) X d_m3_8 rfl rfl ?_
    refine W.iconst (pc' := 10) X (1 : Int32) d_m3_9 (by decide) rfl ?_
    by_cases hi1 : i = (1 : Int32)
    · skip
      refine W.icF (pc' := 13) X d_m3_10 (XT.ii_ne_f hi1) rfl ?_
      refine W.getS (pc' := 16) (host := "") X (Or.inl (w146 G)) Via.refl G.2.2.2.2.2.2.2.1 d_m3_13 rfl fun T X => ?_
      exact W.areturn X d_m3_16 rfl rfl rfl rfl (by decide) (by decide) ⟨(by rw [eOf, if_neg hi0, if_pos hi1]), rfl, rfl⟩
    · skip
      refine W.icT (pc' := 17) X d_m3_10 (XT.ii_ne_t hi1) (by decide) (by decide) ?_
      refine W.getS (pc' := 20) (host := "") X (Or.inl (w144 G)) Via.refl G.2.2.2.2.2.2.2.2.1 d_m3_17 rfl fun T X => ?_
      exact W.areturn X d_m3_20 rfl rfl rfl rfl (by decide) (by decide) ⟨(by rw [eOf, if_neg hi0, if_neg hi1]), rfl, rfl⟩
abbrev c_sig_q (Z : State) (zC : Int32) (fS : Value) (e0 : Addr) (e1 : Addr) (e2 : Addr) (h : Heap) (B : Addr → Prop) (i x y z f : Int32) (xR : Value) (h' : Heap) (B' : Addr → Prop) : Prop := ∃ (u : Addr) (t : Addr), xR = (.ref u) ∧ Keep h h' [] ∧ h.size ≤ u ∧ h.size ≤ t ∧ Str Z h' u t (sigL i x y z f)
def c_sig_rm : Room := { frames := 5, cells := 11, slots := 404, locals := 66 }
set_option maxRecDepth 65536 in
set_option maxHeartbeats 40000000 in
theorem c_sig {l : Launch} {Z : State} {a0 : Array Value} {zC : Int32} {fS : Value} {e0 : Addr} {e1 : Addr} {e2 : Addr} {h : Heap} {B : Addr → Prop} {i x y z f : Int32} (G : Gl Z a0 zC fS e0 e1 e2) (hE : En Z B h)  : Con l Z consts_1 [] (⟨"com/example/campo_grande/campogrande/PayloadDigestNamesPinLaw", "sig", "(IIIII)Ljava/lang/String;"⟩ : MethodName) method_5_code 9 (some (.object "java/lang/String")) c_sig_rm B h #[(.int i), (.int x), (.int y), (.int z), (.int f)] (fun vR hR BR => ∃ xR, vR = some xR ∧ c_sig_q Z zC fS e0 e1 e2 h B i x y z f xR hR BR) := by
  have hz0 := hE.1.1
  refine Con.intro (ls := #[.val (.int i), .val (.int x), .val (.int y), .val (.int z), .val (.int f), .unset, .unset, .unset, .unset]) (plainFor_of_name pn21) G.2.1 hE (fun m => by first | (simp [entryFrame, mkF, argsToLocals, Value.category]; done) | rfl) ?_
  intro p e s m below meth c T hs X
  refine W.iloadN (pc' := 1) X d_m5_0 rfl rfl ?_
  refine W.callS (pc' := 4) (W := 0) (argsL := [(.int x)]) (st := []) (k' := 2) (n' := 68) X (c_hex (n := x) G X.en) (w14 G) (w15 G) (w16 G) (w6 G) (by decide) (by decide) (by decide) rfl (lenOf pd16 rfl) rfl rfl (Nat.le_of_eq rfl) d_m5_1 rfl (by decide) (by decide) (by decide) (by decide) (kri fun T h1 B4 xr X z2 zb5 q3 => ?_)
  obtain ⟨e6, rfl, K7, F8⟩ := q3
  refine W.istore (pc' := 6) (ls' := #[.val (.int i), .val (.int x), .val (.int y), .val (.int z), .val (.int f), .val (.int e6), .unset, .unset, .unset]) X d_m5_4 rfl rfl ?_
  refine W.iloadN (pc' := 7) X d_m5_6 rfl rfl ?_
  refine W.callS (pc' := 10) (W := 0) (argsL := [(.int y)]) (st := []) (k' := 4) (n' := 136) X (c_hex (n := y) G X.en) (w14 G) (w15 G) (w16 G) (w6 G) (by decide) (by decide) (by decide) rfl (lenOf pd16 rfl) rfl rfl (Nat.le_of_eq rfl) d_m5_7 rfl (by decide) (by decide) (by decide) (by decide) (kri fun T h9 B12 xr X z10 zb13 q11 => ?_)
  obtain ⟨e14, rfl, K15, F16⟩ := q11
  refine W.istore (pc' := 12) (ls' := #[.val (.int i), .val (.int x), .val (.int y), .val (.int z), .val (.int f), .val (.int e6), .val (.int e14), .unset, .unset]) X d_m5_10 rfl rfl ?_
  refine W.iloadN (pc' := 13) X d_m5_12 rfl rfl ?_
  refine W.callS (pc' := 16) (W := 0) (argsL := [(.int z)]) (st := []) (k' := 6) (n' := 204) X (c_hex (n := z) G X.en) (w14 G) (w15 G) (w16 G) (w6 G) (by decide) (by decide) (by decide) rfl (lenOf pd16 rfl) rfl rfl (Nat.le_of_eq rfl) d_m5_13 rfl (by decide) (by decide) (by decide) (by decide) (kri fun T h17 B20 xr X z18 zb21 q19 => ?_)
  obtain ⟨e22, rfl, K23, F24⟩ := q19
  refine W.istore (pc' := 18) (ls' := #[.val (.int i), .val (.int x), .val (.int y), .val (.int z), .val (.int f), .val (.int e6), .val (.int e14), .val (.int e22), .unset]) X d_m5_16 rfl rfl ?_
  refine W.iload (pc' := 20) X d_m5_18 rfl rfl ?_
  refine W.callS (pc' := 23) (W := 0) (argsL := [(.int f)]) (st := []) (k' := 8) (n' := 272) X (c_hex (n := f) G X.en) (w14 G) (w15 G) (w16 G) (w6 G) (by decide) (by decide) (by decide) rfl (lenOf pd16 rfl) rfl rfl (Nat.le_of_eq rfl) d_m5_20 rfl (by decide) (by decide) (by decide) (by decide) (kri fun T h25 B28 xr X z26 zb29 q27 => ?_)
  obtain ⟨e30, rfl, K31, F32⟩ := q27
  refine W.istore (pc' := 25) (ls' := #[.val (.int i), .val (.int x), .val (.int y), .val (.int z), .val (.int f), .val (.int e6), .val (.int e14), .val (.int e22), .val (.int e30)]) X d_m5_23 rfl rfl ?_
  refine W.iloadN (pc' := 26) X d_m5_25 rfl rfl ?_
  by_cases hi0 : i = (0 : Int32)
  · skip
    refine W.ifF (pc' := 29) X d_m5_26 (XT.i0_ne_f hi0) rfl ?_
    refine W.new (pc' := 32) (k' := 9) (n' := 276) X (w50 G) (w19 G) (w18 G) d_m5_29 rfl (by decide) (by decide) (by decide) (by decide) fun T h33 a34 X K35 g36 g37 nb38 E39 D40 => ?_
    have F41 : Fld Z h33 a34 "java/lang/String" "value" "[B" .null := D40 (Or.inr (w21 G)) (ty := (.array .byte)) (by decide)
    have F42 : Fld Z h33 a34 "java/lang/String" "coder" "B" (.int (0 : Int32)) := D40 (Or.inr (w22 G)) (ty := .byte) (by decide)
    refine W.dup (pc' := 33) X d_m5_32 rfl rfl ?_
    refine W.bipush (pc' := 35) X (64 : Int32) d_m5_33 (by decide) rfl ?_
    refine W.newA (aty := .char) (pc' := 37) (k' := 10) (n' := 340) (cap := 64) X (w51 G) d_m5_35 (by decide) (by decide) (by decide) rfl (by decide) (by decide) (by decide) (by decide) fun T h43 a44 X K45 g46 g47 nb48 A49 => ?_
    have A49 : Ar Z h43 a44 .char [(.int (0 : Int32)), (.int (0 : Int32)), (.int (0 : Int32)), (.int (0 : Int32)), (.int (0 : Int32)), (.int (0 : Int32)), (.int (0 : Int32)), (.int (0 : Int32)), (.int (0 : Int32)), (.int (0 : Int32)), (.int (0 : Int32)), (.int (0 : Int32)), (.int (0 : Int32)), (.int (0 : Int32)), (.int (0 : Int32)), (.int (0 : Int32)), (.int (0 : Int32)), (.int (0 : Int32)), (.int (0 : Int32)), (.int (0 : Int32)), (.int (0 : Int32)), (.int (0 : Int32)), (.int (0 : Int32)), (.int (0 : Int32)), (.int (0 : Int32)), (.int (0 : Int32)), (.int (0 : Int32)), (.int (0 : Int32)), (.int (0 : Int32)), (.int (0 : Int32)), (.int (0 : Int32)), (.int (0 : Int32)), (.int (0 : Int32)), (.int (0 : Int32)), (.int (0 : Int32)), (.int (0 : Int32)), (.int (0 : Int32)), (.int (0 : Int32)), (.int (0 : Int32)), (.int (0 : Int32)), (.int (0 : Int32)), (.int (0 : Int32)), (.int (0 : Int32)), (.int (0 : Int32)), (.int (0 : Int32)), (.int (0 : Int32)), (.int (0 : Int32)), (.int (0 : Int32)), (.int (0 : Int32)), (.int (0 : Int32)), (.int (0 : Int32)), (.int (0 : Int32)), (.int (0 : Int32)), (.int (0 : Int32)), (.int (0 : Int32)), (.int (0 : Int32)), (.int (0 : Int32)), (.int (0 : Int32)), (.int (0 : Int32)), (.int (0 : Int32)), (.int (0 : Int32)), (.int (0 : Int32)), (.int (0 : Int32)), (.int (0 : Int32))] := A49
    refine W.dup (pc' := 38) X d_m5_37 rfl rfl ?_
    refine W.iconst (pc' := 39) X (0 : Int32) d_m5_38 (by decide) rfl ?_
    refine W.iload (pc' := 41) X d_m5_39 rfl rfl ?_
    refine W.castore (pc' := 42) (i := 0) X A49 (by decide) rfl (ltb rfl) (hexc_nar F8) g47 nb48 d_m5_41 rfl fun T h50 X K51 A52 => ?_
    have A52 : Ar Z h50 a44 .char [(.int e6), (.int (0 : Int32)), (.int (0 : Int32)), (.int (0 : Int32)), (.int (0 : Int32)), (.int (0 : Int32)), (.int (0 : Int32)), (.int (0 : Int32)), (.int (0 : Int32)), (.int (0 : Int32)), (.int (0 : Int32)), (.int (0 : Int32)), (.int (0 : Int32)), (.int (0 : Int32)), (.int (0 : Int32)), (.int (0 : Int32)), (.int (0 : Int32)), (.int (0 : Int32)), (.int (0 : Int32)), (.int (0 : Int32)), (.int (0 : Int32)), (.int (0 : Int32)), (.int (0 : Int32)), (.int (0 : Int32)), (.int (0 : Int32)), (.int (0 : Int32)), (.int (0 : Int32)), (.int (0 : Int32)), (.int (0 : Int32)), (.int (0 : Int32)), (.int (0 : Int32)), (.int (0 : Int32)), (.int (0 : Int32)), (.int (0 : Int32)), (.int (0 : Int32)), (.int (0 : Int32)), (.int (0 : Int32)), (.int (0 : Int32)), (.int (0 : Int32)), (.int (0 : Int32)), (.int (0 : Int32)), (.int (0 : Int32)), (.int (0 : Int32)), (.int (0 : Int32)), (.int (0 : Int32)), (.int (0 : Int32)), (.int (0 : Int32)), (.int (0 : Int32)), (.int (0 : Int32)), (.int (0 : Int32)), (.int (0 : Int32)), (.int (0 : Int32)), (.int (0 : Int32)), (.int (0 : Int32)), (.int (0 : Int32)), (.int (0 : Int32)), (.int (0 : Int32)), (.int (0 : Int32)), (.int (0 : Int32)), (.int (0 : Int32)), (.int (0 : Int32)), (.int (0 : Int32)), (.int (0 : Int32)), (.int (0 : Int32))] := A52
    refine W.dup (pc' := 43) X d_m5_42 rfl rfl ?_
    refine W.iconst (pc' := 44) X (1 : Int32) d_m5_43 (by decide) rfl ?_
    refine W.iload (pc' := 46) X d_m5_44 rfl rfl ?_
    refine W.castore (pc' := 47) (i := 1) X A52 (by decide) rfl (ltb rfl) (hexc_nar F32) g47 nb48 d_m5_46 rfl fun T h53 X K54 A55 => ?_
    have A55 : Ar Z h53 a44 .char [(.int e6), (.int e30), (.int (0 : Int32)), (.int (0 : Int32)), (.int (0 : Int32)), (.int (0 : Int32)), (.int (0 : Int32)), (.int (0 : Int32)), (.int (0 : Int32)), (.int (0 : Int32)), (.int (0 : Int32)), (.int (0 : Int32)), (.int (0 : Int32)), (.int (0 : Int32)), (.int (0 : Int32)), (.int (0 : Int32)), (.int (0 : Int32)), (.int (0 : Int32)), (.int (0 : Int32)), (.int (0 : Int32)), (.int (0 : Int32)), (.int (0 : Int32)), (.int (0 : Int32)), (.int (0 : Int32)), (.int (0 : Int32)), (.int (0 : Int32)), (.int (0 : Int32)), (.int (0 : Int32)), (.int (0 : Int32)), (.int (0 : Int32)), (.int (0 : Int32)), (.int (0 : Int32)), (.int (0 : Int32)), (.int (0 : Int32)), (.int (0 : Int32)), (.int (0 : Int32)), (.int (0 : Int32)), (.int (0 : Int32)), (.int (0 : Int32)), (.int (0 : Int32)), (.int (0 : Int32)), (.int (0 : Int32)), (.int (0 : Int32)), (.int (0 : Int32)), (.int (0 : Int32)), (.int (0 : Int32)), (.int (0 : Int32)), (.int (0 : Int32)), (.int (0 : Int32)), (.int (0 : Int32)), (.int (0 : Int32)), (.int (0 : Int32)), (.int (0 : Int32)), (.int (0 : Int32)), (.int (0 : Int32)), (.int (0 : Int32)), (.int (0 : Int32)), (.int (0 : Int32)), (.int (0 : Int32)), (.int (0 : Int32)), (.int (0 : Int32)), (.int (0 : Int32)), (.int (0 : Int32)), (.int (0 : Int32))] := A55
    refine W.dup (pc' := 48) X d_m5_47 rfl rfl ?_
    refine W.iconst (pc' := 49) X (2 : Int32) d_m5_48 (by decide) rfl ?_
    refine W.iload (pc' := 51) X d_m5_49 rfl rfl ?_
    refine W.castore (pc' := 52) (i := 2) X A55 (by decide) rfl (ltb rfl) (hexc_nar F32) g47 nb48 d_m5_51 rfl fun T h56 X K57 A58 => ?_
    have A58 : Ar Z h56 a44 .char [(.int e6), (.int e30), (.int e30), (.int (0 : Int32)), (.int (0 : Int32)), (.int (0 : Int32)), (.int (0 : Int32)), (.int (0 : Int32)), (.int (0 : Int32)), (.int (0 : Int32)), (.int (0 : Int32)), (.int (0 : Int32)), (.int (0 : Int32)), (.int (0 : Int32)), (.int (0 : Int32)), (.int (0 : Int32)), (.int (0 : Int32)), (.int (0 : Int32)), (.int (0 : Int32)), (.int (0 : Int32)), (.int (0 : Int32)), (.int (0 : Int32)), (.int (0 : Int32)), (.int (0 : Int32)), (.int (0 : Int32)), (.int (0 : Int32)), (.int (0 : Int32)), (.int (0 : Int32)), (.int (0 : Int32)), (.int (0 : Int32)), (.int (0 : Int32)), (.int (0 : Int32)), (.int (0 : Int32)), (.int (0 : Int32)), (.int (0 : Int32)), (.int (0 : Int32)), (.int (0 : Int32)), (.int (0 : Int32)), (.int (0 : Int32)), (.int (0 : Int32)), (.int (0 : Int32)), (.int (0 : Int32)), (.int (0 : Int32)), (.int (0 : Int32)), (.int (0 : Int32)), (.int (0 : Int32)), (.int (0 : Int32)), (.int (0 : Int32)), (.int (0 : Int32)), (.int (0 : Int32)), (.int (0 : Int32)), (.int (0 : Int32)), (.int (0 : Int32)), (.int (0 : Int32)), (.int (0 : Int32)), (.int (0 : Int32)), (.int (0 : Int32)), (.int (0 : Int32)), (.int (0 : Int32)), (.int (0 : Int32)), (.int (0 : Int32)), (.int (0 : Int32)), (.int (0 : Int32)), (.int (0 : Int32))] := A58
    refine W.dup (pc' := 53) X d_m5_52 rfl rfl ?_
    refine W.iconst (pc' := 54) X (3 : Int32) d_m5_53 (by decide) rfl ?_
    refine W.iload (pc' := 56) X d_m5_54 rfl rfl ?_
    refine W.castore (pc' := 57) (i := 3) X A58 (by decide) rfl (ltb rfl) (hexc_nar F32) g47 nb48 d_m5_56 rfl fun T h59 X K60 A61 => ?_
    have A61 : Ar Z h59 a44 .char [(.int e6), (.int e30), (.int e30), (.int e30), (.int (0 : Int32)), (.int (0 : Int32)), (.int (0 : Int32)), (.int (0 : Int32)), (.int (0 : Int32)), (.int (0 : Int32)), (.int (0 : Int32)), (.int (0 : Int32)), (.int (0 : Int32)), (.int (0 : Int32)), (.int (0 : Int32)), (.int (0 : Int32)), (.int (0 : Int32)), (.int (0 : Int32)), (.int (0 : Int32)), (.int (0 : Int32)), (.int (0 : Int32)), (.int (0 : Int32)), (.int (0 : Int32)), (.int (0 : Int32)), (.int (0 : Int32)), (.int (0 : Int32)), (.int (0 : Int32)), (.int (0 : Int32)), (.int (0 : Int32)), (.int (0 : Int32)), (.int (0 : Int32)), (.int (0 : Int32)), (.int (0 : Int32)), (.int (0 : Int32)), (.int (0 : Int32)), (.int (0 : Int32)), (.int (0 : Int32)), (.int (0 : Int32)), (.int (0 : Int32)), (.int (0 : Int32)), (.int (0 : Int32)), (.int (0 : Int32)), (.int (0 : Int32)), (.int (0 : Int32)), (.int (0 : Int32)), (.int (0 : Int32)), (.int (0 : Int32)), (.int (0 : Int32)), (.int (0 : Int32)), (.int (0 : Int32)), (.int (0 : Int32)), (.int (0 : Int32)), (.int (0 : Int32)), (.int (0 : Int32)), (.int (0 : Int32)), (.int (0 : Int32)), (.int (0 : Int32)), (.int (0 : Int32)), (.int (0 : Int32)), (.int (0 : Int32)), (.int (0 : Int32)), (.int (0 : Int32)), (.int (0 : Int32)), (.int (0 : Int32))] := A61
    refine W.dup (pc' := 58) X d_m5_57 rfl rfl ?_
    refine W.iconst (pc' := 59) X (4 : Int32) d_m5_58 (by decide) rfl ?_
    refine W.iload (pc' := 61) X d_m5_59 rfl rfl ?_
    refine W.castore (pc' := 62) (i := 4) X A61 (by decide) rfl (ltb rfl) (hexc_nar F32) g47 nb48 d_m5_61 rfl fun T h62 X K63 A64 => ?_
    have A64 : Ar Z h62 a44 .char [(.int e6), (.int e30), (.int e30), (.int e30), (.int e30), (.int (0 : Int32)), (.int (0 : Int32)), (.int (0 : Int32)), (.int (0 : Int32)), (.int (0 : Int32)), (.int (0 : Int32)), (.int (0 : Int32)), (.int (0 : Int32)), (.int (0 : Int32)), (.int (0 : Int32)), (.int (0 : Int32)), (.int (0 : Int32)), (.int (0 : Int32)), (.int (0 : Int32)), (.int (0 : Int32)), (.int (0 : Int32)), (.int (0 : Int32)), (.int (0 : Int32)), (.int (0 : Int32)), (.int (0 : Int32)), (.int (0 : Int32)), (.int (0 : Int32)), (.int (0 : Int32)), (.int (0 : Int32)), (.int (0 : Int32)), (.int (0 : Int32)), (.int (0 : Int32)), (.int (0 : Int32)), (.int (0 : Int32)), (.int (0 : Int32)), (.int (0 : Int32)), (.int (0 : Int32)), (.int (0 : Int32)), (.int (0 : Int32)), (.int (0 : Int32)), (.int (0 : Int32)), (.int (0 : Int32)), (.int (0 : Int32)), (.int (0 : Int32)), (.int (0 : Int32)), (.int (0 : Int32)), (.int (0 : Int32)), (.int (0 : Int32)), (.int (0 : Int32)), (.int (0 : Int32)), (.int (0 : Int32)), (.int (0 : Int32)), (.int (0 : Int32)), (.int (0 : Int32)), (.int (0 : Int32)), (.int (0 : Int32)), (.int (0 : Int32)), (.int (0 : Int32)), (.int (0 : Int32)), (.int (0 : Int32)), (.int (0 : Int32)), (.int (0 : Int32)), (.int (0 : Int32)), (.int (0 : Int32))] := A64
    refine W.dup (pc' := 63) X d_m5_62 rfl rfl ?_
    refine W.iconst (pc' := 64) X (5 : Int32) d_m5_63 (by decide) rfl ?_
    refine W.iload (pc' := 66) X d_m5_64 rfl rfl ?_
    refine W.castore (pc' := 67) (i := 5) X A64 (by decide) rfl (ltb rfl) (hexc_nar F32) g47 nb48 d_m5_66 rfl fun T h65 X K66 A67 => ?_
    have A67 : Ar Z h65 a44 .char [(.int e6), (.int e30), (.int e30), (.int e30), (.int e30), (.int e30), (.int (0 : Int32)), (.int (0 : Int32)), (.int (0 : Int32)), (.int (0 : Int32)), (.int (0 : Int32)), (.int (0 : Int32)), (.int (0 : Int32)), (.int (0 : Int32)), (.int (0 : Int32)), (.int (0 : Int32)), (.int (0 : Int32)), (.int (0 : Int32)), (.int (0 : Int32)), (.int (0 : Int32)), (.int (0 : Int32)), (.int (0 : Int32)), (.int (0 : Int32)), (.int (0 : Int32)), (.int (0 : Int32)), (.int (0 : Int32)), (.int (0 : Int32)), (.int (0 : Int32)), (.int (0 : Int32)), (.int (0 : Int32)), (.int (0 : Int32)), (.int (0 : Int32)), (.int (0 : Int32)), (.int (0 : Int32)), (.int (0 : Int32)), (.int (0 : Int32)), (.int (0 : Int32)), (.int (0 : Int32)), (.int (0 : Int32)), (.int (0 : Int32)), (.int (0 : Int32)), (.int (0 : Int32)), (.int (0 : Int32)), (.int (0 : Int32)), (.int (0 : Int32)), (.int (0 : Int32)), (.int (0 : Int32)), (.int (0 : Int32)), (.int (0 : Int32)), (.int (0 : Int32)), (.int (0 : Int32)), (.int (0 : Int32)), (.int (0 : Int32)), (.int (0 : Int32)), (.int (0 : Int32)), (.int (0 : Int32)), (.int (0 : Int32)), (.int (0 : Int32)), (.int (0 : Int32)), (.int (0 : Int32)), (.int (0 : Int32)), (.int (0 : Int32)), (.int (0 : Int32)), (.int (0 : Int32))] := A67
    refine W.dup (pc' := 68) X d_m5_67 rfl rfl ?_
    refine W.bipush (pc' := 70) X (6 : Int32) d_m5_68 (by decide) rfl ?_
    refine W.iload (pc' := 72) X d_m5_70 rfl rfl ?_
    refine W.castore (pc' := 73) (i := 6) X A67 (by decide) rfl (ltb rfl) (hexc_nar F32) g47 nb48 d_m5_72 rfl fun T h68 X K69 A70 => ?_
    have A70 : Ar Z h68 a44 .char [(.int e6), (.int e30), (.int e30), (.int e30), (.int e30), (.int e30), (.int e30), (.int (0 : Int32)), (.int (0 : Int32)), (.int (0 : Int32)), (.int (0 : Int32)), (.int (0 : Int32)), (.int (0 : Int32)), (.int (0 : Int32)), (.int (0 : Int32)), (.int (0 : Int32)), (.int (0 : Int32)), (.int (0 : Int32)), (.int (0 : Int32)), (.int (0 : Int32)), (.int (0 : Int32)), (.int (0 : Int32)), (.int (0 : Int32)), (.int (0 : Int32)), (.int (0 : Int32)), (.int (0 : Int32)), (.int (0 : Int32)), (.int (0 : Int32)), (.int (0 : Int32)), (.int (0 : Int32)), (.int (0 : Int32)), (.int (0 : Int32)), (.int (0 : Int32)), (.int (0 : Int32)), (.int (0 : Int32)), (.int (0 : Int32)), (.int (0 : Int32)), (.int (0 : Int32)), (.int (0 : Int32)), (.int (0 : Int32)), (.int (0 : Int32)), (.int (0 : Int32)), (.int (0 : Int32)), (.int (0 : Int32)), (.int (0 : Int32)), (.int (0 : Int32)), (.int (0 : Int32)), (.int (0 : Int32)), (.int (0 : Int32)), (.int (0 : Int32)), (.int (0 : Int32)), (.int (0 : Int32)), (.int (0 : Int32)), (.int (0 : Int32)), (.int (0 : Int32)), (.int (0 : Int32)), (.int (0 : Int32)), (.int (0 : Int32)), (.int (0 : Int32)), (.int (0 : Int32)), (.int (0 : Int32)), (.int (0 : Int32)), (.int (0 : Int32)), (.int (0 : Int32))] := A70
    refine W.dup (pc' := 74) X d_m5_73 rfl rfl ?_
    refine W.bipush (pc' := 76) X (7 : Int32) d_m5_74 (by decide) rfl ?_
    refine W.iload (pc' := 78) X d_m5_76 rfl rfl ?_
    refine W.castore (pc' := 79) (i := 7) X A70 (by decide) rfl (ltb rfl) (hexc_nar F32) g47 nb48 d_m5_78 rfl fun T h71 X K72 A73 => ?_
    have A73 : Ar Z h71 a44 .char [(.int e6), (.int e30), (.int e30), (.int e30), (.int e30), (.int e30), (.int e30), (.int e30), (.int (0 : Int32)), (.int (0 : Int32)), (.int (0 : Int32)), (.int (0 : Int32)), (.int (0 : Int32)), (.int (0 : Int32)), (.int (0 : Int32)), (.int (0 : Int32)), (.int (0 : Int32)), (.int (0 : Int32)), (.int (0 : Int32)), (.int (0 : Int32)), (.int (0 : Int32)), (.int (0 : Int32)), (.int (0 : Int32)), (.int (0 : Int32)), (.int (0 : Int32)), (.int (0 : Int32)), (.int (0 : Int32)), (.int (0 : Int32)), (.int (0 : Int32)), (.int (0 : Int32)), (.int (0 : Int32)), (.int (0 : Int32)), (.int (0 : Int32)), (.int (0 : Int32)), (.int (0 : Int32)), (.int (0 : Int32)), (.int (0 : Int32)), (.int (0 : Int32)), (.int (0 : Int32)), (.int (0 : Int32)), (.int (0 : Int32)), (.int (0 : Int32)), (.int (0 : Int32)), (.int (0 : Int32)), (.int (0 : Int32)), (.int (0 : Int32)), (.int (0 : Int32)), (.int (0 : Int32)), (.int (0 : Int32)), (.int (0 : Int32)), (.int (0 : Int32)), (.int (0 : Int32)), (.int (0 : Int32)), (.int (0 : Int32)), (.int (0 : Int32)), (.int (0 : Int32)), (.int (0 : Int32)), (.int (0 : Int32)), (.int (0 : Int32)), (.int (0 : Int32)), (.int (0 : Int32)), (.int (0 : Int32)), (.int (0 : Int32)), (.int (0 : Int32))] := A73
    refine W.dup (pc' := 80) X d_m5_79 rfl rfl ?_
    refine W.bipush (pc' := 82) X (8 : Int32) d_m5_80 (by decide) rfl ?_
    refine W.iload (pc' := 84) X d_m5_82 rfl rfl ?_
    refine W.castore (pc' := 85) (i := 8) X A73 (by decide) rfl (ltb rfl) (hexc_nar F32) g47 nb48 d_m5_84 rfl fun T h74 X K75 A76 => ?_
    have A76 : Ar Z h74 a44 .char [(.int e6), (.int e30), (.int e30), (.int e30), (.int e30), (.int e30), (.int e30), (.int e30), (.int e30), (.int (0 : Int32)), (.int (0 : Int32)), (.int (0 : Int32)), (.int (0 : Int32)), (.int (0 : Int32)), (.int (0 : Int32)), (.int (0 : Int32)), (.int (0 : Int32)), (.int (0 : Int32)), (.int (0 : Int32)), (.int (0 : Int32)), (.int (0 : Int32)), (.int (0 : Int32)), (.int (0 : Int32)), (.int (0 : Int32)), (.int (0 : Int32)), (.int (0 : Int32)), (.int (0 : Int32)), (.int (0 : Int32)), (.int (0 : Int32)), (.int (0 : Int32)), (.int (0 : Int32)), (.int (0 : Int32)), (.int (0 : Int32)), (.int (0 : Int32)), (.int (0 : Int32)), (.int (0 : Int32)), (.int (0 : Int32)), (.int (0 : Int32)), (.int (0 : Int32)), (.int (0 : Int32)), (.int (0 : Int32)), (.int (0 : Int32)), (.int (0 : Int32)), (.int (0 : Int32)), (.int (0 : Int32)), (.int (0 : Int32)), (.int (0 : Int32)), (.int (0 : Int32)), (.int (0 : Int32)), (.int (0 : Int32)), (.int (0 : Int32)), (.int (0 : Int32)), (.int (0 : Int32)), (.int (0 : Int32)), (.int (0 : Int32)), (.int (0 : Int32)), (.int (0 : Int32)), (.int (0 : Int32)), (.int (0 : Int32)), (.int (0 : Int32)), (.int (0 : Int32)), (.int (0 : Int32)), (.int (0 : Int32)), (.int (0 : Int32))] := A76
    refine W.dup (pc' := 86) X d_m5_85 rfl rfl ?_
    refine W.bipush (pc' := 88) X (9 : Int32) d_m5_86 (by decide) rfl ?_
    refine W.iload (pc' := 90) X d_m5_88 rfl rfl ?_
    refine W.castore (pc' := 91) (i := 9) X A76 (by decide) rfl (ltb rfl) (hexc_nar F32) g47 nb48 d_m5_90 rfl fun T h77 X K78 A79 => ?_
    have A79 : Ar Z h77 a44 .char [(.int e6), (.int e30), (.int e30), (.int e30), (.int e30), (.int e30), (.int e30), (.int e30), (.int e30), (.int e30), (.int (0 : Int32)), (.int (0 : Int32)), (.int (0 : Int32)), (.int (0 : Int32)), (.int (0 : Int32)), (.int (0 : Int32)), (.int (0 : Int32)), (.int (0 : Int32)), (.int (0 : Int32)), (.int (0 : Int32)), (.int (0 : Int32)), (.int (0 : Int32)), (.int (0 : Int32)), (.int (0 : Int32)), (.int (0 : Int32)), (.int (0 : Int32)), (.int (0 : Int32)), (.int (0 : Int32)), (.int (0 : Int32)), (.int (0 : Int32)), (.int (0 : Int32)), (.int (0 : Int32)), (.int (0 : Int32)), (.int (0 : Int32)), (.int (0 : Int32)), (.int (0 : Int32)), (.int (0 : Int32)), (.int (0 : Int32)), (.int (0 : Int32)), (.int (0 : Int32)), (.int (0 : Int32)), (.int (0 : Int32)), (.int (0 : Int32)), (.int (0 : Int32)), (.int (0 : Int32)), (.int (0 : Int32)), (.int (0 : Int32)), (.int (0 : Int32)), (.int (0 : Int32)), (.int (0 : Int32)), (.int (0 : Int32)), (.int (0 : Int32)), (.int (0 : Int32)), (.int (0 : Int32)), (.int (0 : Int32)), (.int (0 : Int32)), (.int (0 : Int32)), (.int (0 : Int32)), (.int (0 : Int32)), (.int (0 : Int32)), (.int (0 : Int32)), (.int (0 : Int32)), (.int (0 : Int32)), (.int (0 : Int32))] := A79
    refine W.dup (pc' := 92) X d_m5_91 rfl rfl ?_
    refine W.bipush (pc' := 94) X (10 : Int32) d_m5_92 (by decide) rfl ?_
    refine W.iload (pc' := 96) X d_m5_94 rfl rfl ?_
    refine W.castore (pc' := 97) (i := 10) X A79 (by decide) rfl (ltb rfl) (hexc_nar F32) g47 nb48 d_m5_96 rfl fun T h80 X K81 A82 => ?_
    have A82 : Ar Z h80 a44 .char [(.int e6), (.int e30), (.int e30), (.int e30), (.int e30), (.int e30), (.int e30), (.int e30), (.int e30), (.int e30), (.int e30), (.int (0 : Int32)), (.int (0 : Int32)), (.int (0 : Int32)), (.int (0 : Int32)), (.int (0 : Int32)), (.int (0 : Int32)), (.int (0 : Int32)), (.int (0 : Int32)), (.int (0 : Int32)), (.int (0 : Int32)), (.int (0 : Int32)), (.int (0 : Int32)), (.int (0 : Int32)), (.int (0 : Int32)), (.int (0 : Int32)), (.int (0 : Int32)), (.int (0 : Int32)), (.int (0 : Int32)), (.int (0 : Int32)), (.int (0 : Int32)), (.int (0 : Int32)), (.int (0 : Int32)), (.int (0 : Int32)), (.int (0 : Int32)), (.int (0 : Int32)), (.int (0 : Int32)), (.int (0 : Int32)), (.int (0 : Int32)), (.int (0 : Int32)), (.int (0 : Int32)), (.int (0 : Int32)), (.int (0 : Int32)), (.int (0 : Int32)), (.int (0 : Int32)), (.int (0 : Int32)), (.int (0 : Int32)), (.int (0 : Int32)), (.int (0 : Int32)), (.int (0 : Int32)), (.int (0 : Int32)), (.int (0 : Int32)), (.int (0 : Int32)), (.int (0 : Int32)), (.int (0 : Int32)), (.int (0 : Int32)), (.int (0 : Int32)), (.int (0 : Int32)), (.int (0 : Int32)), (.int (0 : Int32)), (.int (0 : Int32)), (.int (0 : Int32)), (.int (0 : Int32)), (.int (0 : Int32))] := A82
    refine W.dup (pc' := 98) X d_m5_97 rfl rfl ?_
    refine W.bipush (pc' := 100) X (11 : Int32) d_m5_98 (by decide) rfl ?_
    refine W.iload (pc' := 102) X d_m5_100 rfl rfl ?_
    refine W.castore (pc' := 103) (i := 11) X A82 (by decide) rfl (ltb rfl) (hexc_nar F32) g47 nb48 d_m5_102 rfl fun T h83 X K84 A85 => ?_
    have A85 : Ar Z h83 a44 .char [(.int e6), (.int e30), (.int e30), (.int e30), (.int e30), (.int e30), (.int e30), (.int e30), (.int e30), (.int e30), (.int e30), (.int e30), (.int (0 : Int32)), (.int (0 : Int32)), (.int (0 : Int32)), (.int (0 : Int32)), (.int (0 : Int32)), (.int (0 : Int32)), (.int (0 : Int32)), (.int (0 : Int32)), (.int (0 : Int32)), (.int (0 : Int32)), (.int (0 : Int32)), (.int (0 : Int32)), (.int (0 : Int32)), (.int (0 : Int32)), (.int (0 : Int32)), (.int (0 : Int32)), (.int (0 : Int32)), (.int (0 : Int32)), (.int (0 : Int32)), (.int (0 : Int32)), (.int (0 : Int32)), (.int (0 : Int32)), (.int (0 : Int32)), (.int (0 : Int32)), (.int (0 : Int32)), (.int (0 : Int32)), (.int (0 : Int32)), (.int (0 : Int32)), (.int (0 : Int32)), (.int (0 : Int32)), (.int (0 : Int32)), (.int (0 : Int32)), (.int (0 : Int32)), (.int (0 : Int32)), (.int (0 : Int32)), (.int (0 : Int32)), (.int (0 : Int32)), (.int (0 : Int32)), (.int (0 : Int32)), (.int (0 : Int32)), (.int (0 : Int32)), (.int (0 : Int32)), (.int (0 : Int32)), (.int (0 : Int32)), (.int (0 : Int32)), (.int (0 : Int32)), (.int (0 : Int32)), (.int (0 : Int32)), (.int (0 : Int32)), (.int (0 : Int32)), (.int (0 : Int32)), (.int (0 : Int32))] := A85
    refine W.dup (pc' := 104) X d_m5_103 rfl rfl ?_
    refine W.bipush (pc' := 106) X (12 : Int32) d_m5_104 (by decide) rfl ?_
    refine W.iload (pc' := 108) X d_m5_106 rfl rfl ?_
    refine W.castore (pc' := 109) (i := 12) X A85 (by decide) rfl (ltb rfl) (hexc_nar F32) g47 nb48 d_m5_108 rfl fun T h86 X K87 A88 => ?_
    have A88 : Ar Z h86 a44 .char [(.int e6), (.int e30), (.int e30), (.int e30), (.int e30), (.int e30), (.int e30), (.int e30), (.int e30), (.int e30), (.int e30), (.int e30), (.int e30), (.int (0 : Int32)), (.int (0 : Int32)), (.int (0 : Int32)), (.int (0 : Int32)), (.int (0 : Int32)), (.int (0 : Int32)), (.int (0 : Int32)), (.int (0 : Int32)), (.int (0 : Int32)), (.int (0 : Int32)), (.int (0 : Int32)), (.int (0 : Int32)), (.int (0 : Int32)), (.int (0 : Int32)), (.int (0 : Int32)), (.int (0 : Int32)), (.int (0 : Int32)), (.int (0 : Int32)), (.int (0 : Int32)), (.int (0 : Int32)), (.int (0 : Int32)), (.int (0 : Int32)), (.int (0 : Int32)), (.int (0 : Int32)), (.int (0 : Int32)), (.int (0 : Int32)), (.int (0 : Int32)), (.int (0 : Int32)), (.int (0 : Int32)), (.int (0 : Int32)), (.int (0 : Int32)), (.int (0 : Int32)), (.int (0 : Int32)), (.int (0 : Int32)), (.int (0 : Int32)), (.int (0 : Int32)), (.int (0 : Int32)), (.int (0 : Int32)), (.int (0 : Int32)), (.int (0 : Int32)), (.int (0 : Int32)), (.int (0 : Int32)), (.int (0 : Int32)), (.int (0 : Int32)), (.int (0 : Int32)), (.int (0 : Int32)), (.int (0 : Int32)), (.int (0 : Int32)), (.int (0 : Int32)), (.int (0 : Int32)), (.int (0 : Int32))] := A88
    refine W.dup (pc' := 110) X d_m5_109 rfl rfl ?_
    refine W.bipush (pc' := 112) X (13 : Int32) d_m5_110 (by decide) rfl ?_
    refine W.iload (pc' := 114) X d_m5_112 rfl rfl ?_
    refine W.castore (pc' := 115) (i := 13) X A88 (by decide) rfl (ltb rfl) (hexc_nar F32) g47 nb48 d_m5_114 rfl fun T h89 X K90 A91 => ?_
    have A91 : Ar Z h89 a44 .char [(.int e6), (.int e30), (.int e30), (.int e30), (.int e30), (.int e30), (.int e30), (.int e30), (.int e30), (.int e30), (.int e30), (.int e30), (.int e30), (.int e30), (.int (0 : Int32)), (.int (0 : Int32)), (.int (0 : Int32)), (.int (0 : Int32)), (.int (0 : Int32)), (.int (0 : Int32)), (.int (0 : Int32)), (.int (0 : Int32)), (.int (0 : Int32)), (.int (0 : Int32)), (.int (0 : Int32)), (.int (0 : Int32)), (.int (0 : Int32)), (.int (0 : Int32)), (.int (0 : Int32)), (.int (0 : Int32)), (.int (0 : Int32)), (.int (0 : Int32)), (.int (0 : Int32)), (.int (0 : Int32)), (.int (0 : Int32)), (.int (0 : Int32)), (.int (0 : Int32)), (.int (0 : Int32)), (.int (0 : Int32)), (.int (0 : Int32)), (.int (0 : Int32)), (.int (0 : Int32)), (.int (0 : Int32)), (.int (0 : Int32)), (.int (0 : Int32)), (.int (0 : Int32)), (.int (0 : Int32)), (.int (0 : Int32)), (.int (0 : Int32)), (.int (0 : Int32)), (.int (0 : Int32)), (.int (0 : Int32)), (.int (0 : Int32)), (.int (0 : Int32)), (.int (0 : Int32)), (.int (0 : Int32)), (.int (0 : Int32)), (.int (0 : Int32)), (.int (0 : Int32)), (.int (0 : Int32)), (.int (0 : Int32)), (.int (0 : Int32)), (.int (0 : Int32)), (.int (0 : Int32))] := A91
    refine W.dup (pc' := 116) X d_m5_115 rfl rfl ?_
    refine W.bipush (pc' := 118) X (14 : Int32) d_m5_116 (by decide) rfl ?_
    refine W.iload (pc' := 120) X d_m5_118 rfl rfl ?_
    refine W.castore (pc' := 121) (i := 14) X A91 (by decide) rfl (ltb rfl) (hexc_nar F32) g47 nb48 d_m5_120 rfl fun T h92 X K93 A94 => ?_
    have A94 : Ar Z h92 a44 .char [(.int e6), (.int e30), (.int e30), (.int e30), (.int e30), (.int e30), (.int e30), (.int e30), (.int e30), (.int e30), (.int e30), (.int e30), (.int e30), (.int e30), (.int e30), (.int (0 : Int32)), (.int (0 : Int32)), (.int (0 : Int32)), (.int (0 : Int32)), (.int (0 : Int32)), (.int (0 : Int32)), (.int (0 : Int32)), (.int (0 : Int32)), (.int (0 : Int32)), (.int (0 : Int32)), (.int (0 : Int32)), (.int (0 : Int32)), (.int (0 : Int32)), (.int (0 : Int32)), (.int (0 : Int32)), (.int (0 : Int32)), (.int (0 : Int32)), (.int (0 : Int32)), (.int (0 : Int32)), (.int (0 : Int32)), (.int (0 : Int32)), (.int (0 : Int32)), (.int (0 : Int32)), (.int (0 : Int32)), (.int (0 : Int32)), (.int (0 : Int32)), (.int (0 : Int32)), (.int (0 : Int32)), (.int (0 : Int32)), (.int (0 : Int32)), (.int (0 : Int32)), (.int (0 : Int32)), (.int (0 : Int32)), (.int (0 : Int32)), (.int (0 : Int32)), (.int (0 : Int32)), (.int (0 : Int32)), (.int (0 : Int32)), (.int (0 : Int32)), (.int (0 : Int32)), (.int (0 : Int32)), (.int (0 : Int32)), (.int (0 : Int32)), (.int (0 : Int32)), (.int (0 : Int32)), (.int (0 : Int32)), (.int (0 : Int32)), (.int (0 : Int32)), (.int (0 : Int32))] := A94
    refine W.dup (pc' := 122) X d_m5_121 rfl rfl ?_
    refine W.bipush (pc' := 124) X (15 : Int32) d_m5_122 (by decide) rfl ?_
    refine W.iload (pc' := 126) X d_m5_124 rfl rfl ?_
    refine W.castore (pc' := 127) (i := 15) X A94 (by decide) rfl (ltb rfl) (hexc_nar F32) g47 nb48 d_m5_126 rfl fun T h95 X K96 A97 => ?_
    have A97 : Ar Z h95 a44 .char [(.int e6), (.int e30), (.int e30), (.int e30), (.int e30), (.int e30), (.int e30), (.int e30), (.int e30), (.int e30), (.int e30), (.int e30), (.int e30), (.int e30), (.int e30), (.int e30), (.int (0 : Int32)), (.int (0 : Int32)), (.int (0 : Int32)), (.int (0 : Int32)), (.int (0 : Int32)), (.int (0 : Int32)), (.int (0 : Int32)), (.int (0 : Int32)), (.int (0 : Int32)), (.int (0 : Int32)), (.int (0 : Int32)), (.int (0 : Int32)), (.int (0 : Int32)), (.int (0 : Int32)), (.int (0 : Int32)), (.int (0 : Int32)), (.int (0 : Int32)), (.int (0 : Int32)), (.int (0 : Int32)), (.int (0 : Int32)), (.int (0 : Int32)), (.int (0 : Int32)), (.int (0 : Int32)), (.int (0 : Int32)), (.int (0 : Int32)), (.int (0 : Int32)), (.int (0 : Int32)), (.int (0 : Int32)), (.int (0 : Int32)), (.int (0 : Int32)), (.int (0 : Int32)), (.int (0 : Int32)), (.int (0 : Int32)), (.int (0 : Int32)), (.int (0 : Int32)), (.int (0 : Int32)), (.int (0 : Int32)), (.int (0 : Int32)), (.int (0 : Int32)), (.int (0 : Int32)), (.int (0 : Int32)), (.int (0 : Int32)), (.int (0 : Int32)), (.int (0 : Int32)), (.int (0 : Int32)), (.int (0 : Int32)), (.int (0 : Int32)), (.int (0 : Int32))] := A97
    refine W.dup (pc' := 128) X d_m5_127 rfl rfl ?_
    refine W.bipush (pc' := 130) X (16 : Int32) d_m5_128 (by decide) rfl ?_
    refine W.iload (pc' := 132) X d_m5_130 rfl rfl ?_
    refine W.castore (pc' := 133) (i := 16) X A97 (by decide) rfl (ltb rfl) (hexc_nar F32) g47 nb48 d_m5_132 rfl fun T h98 X K99 A100 => ?_
    have A100 : Ar Z h98 a44 .char [(.int e6), (.int e30), (.int e30), (.int e30), (.int e30), (.int e30), (.int e30), (.int e30), (.int e30), (.int e30), (.int e30), (.int e30), (.int e30), (.int e30), (.int e30), (.int e30), (.int e30), (.int (0 : Int32)), (.int (0 : Int32)), (.int (0 : Int32)), (.int (0 : Int32)), (.int (0 : Int32)), (.int (0 : Int32)), (.int (0 : Int32)), (.int (0 : Int32)), (.int (0 : Int32)), (.int (0 : Int32)), (.int (0 : Int32)), (.int (0 : Int32)), (.int (0 : Int32)), (.int (0 : Int32)), (.int (0 : Int32)), (.int (0 : Int32)), (.int (0 : Int32)), (.int (0 : Int32)), (.int (0 : Int32)), (.int (0 : Int32)), (.int (0 : Int32)), (.int (0 : Int32)), (.int (0 : Int32)), (.int (0 : Int32)), (.int (0 : Int32)), (.int (0 : Int32)), (.int (0 : Int32)), (.int (0 : Int32)), (.int (0 : Int32)), (.int (0 : Int32)), (.int (0 : Int32)), (.int (0 : Int32)), (.int (0 : Int32)), (.int (0 : Int32)), (.int (0 : Int32)), (.int (0 : Int32)), (.int (0 : Int32)), (.int (0 : Int32)), (.int (0 : Int32)), (.int (0 : Int32)), (.int (0 : Int32)), (.int (0 : Int32)), (.int (0 : Int32)), (.int (0 : Int32)), (.int (0 : Int32)), (.int (0 : Int32)), (.int (0 : Int32))] := A100
    refine W.dup (pc' := 134) X d_m5_133 rfl rfl ?_
    refine W.bipush (pc' := 136) X (17 : Int32) d_m5_134 (by decide) rfl ?_
    refine W.iload (pc' := 138) X d_m5_136 rfl rfl ?_
    refine W.castore (pc' := 139) (i := 17) X A100 (by decide) rfl (ltb rfl) (hexc_nar F32) g47 nb48 d_m5_138 rfl fun T h101 X K102 A103 => ?_
    have A103 : Ar Z h101 a44 .char [(.int e6), (.int e30), (.int e30), (.int e30), (.int e30), (.int e30), (.int e30), (.int e30), (.int e30), (.int e30), (.int e30), (.int e30), (.int e30), (.int e30), (.int e30), (.int e30), (.int e30), (.int e30), (.int (0 : Int32)), (.int (0 : Int32)), (.int (0 : Int32)), (.int (0 : Int32)), (.int (0 : Int32)), (.int (0 : Int32)), (.int (0 : Int32)), (.int (0 : Int32)), (.int (0 : Int32)), (.int (0 : Int32)), (.int (0 : Int32)), (.int (0 : Int32)), (.int (0 : Int32)), (.int (0 : Int32)), (.int (0 : Int32)), (.int (0 : Int32)), (.int (0 : Int32)), (.int (0 : Int32)), (.int (0 : Int32)), (.int (0 : Int32)), (.int (0 : Int32)), (.int (0 : Int32)), (.int (0 : Int32)), (.int (0 : Int32)), (.int (0 : Int32)), (.int (0 : Int32)), (.int (0 : Int32)), (.int (0 : Int32)), (.int (0 : Int32)), (.int (0 : Int32)), (.int (0 : Int32)), (.int (0 : Int32)), (.int (0 : Int32)), (.int (0 : Int32)), (.int (0 : Int32)), (.int (0 : Int32)), (.int (0 : Int32)), (.int (0 : Int32)), (.int (0 : Int32)), (.int (0 : Int32)), (.int (0 : Int32)), (.int (0 : Int32)), (.int (0 : Int32)), (.int (0 : Int32)), (.int (0 : Int32)), (.int (0 : Int32))] := A103
    refine W.dup (pc' := 140) X d_m5_139 rfl rfl ?_
    refine W.bipush (pc' := 142) X (18 : Int32) d_m5_140 (by decide) rfl ?_
    refine W.iload (pc' := 144) X d_m5_142 rfl rfl ?_
    refine W.castore (pc' := 145) (i := 18) X A103 (by decide) rfl (ltb rfl) (hexc_nar F32) g47 nb48 d_m5_144 rfl fun T h104 X K105 A106 => ?_
    have A106 : Ar Z h104 a44 .char [(.int e6), (.int e30), (.int e30), (.int e30), (.int e30), (.int e30), (.int e30), (.int e30), (.int e30), (.int e30), (.int e30), (.int e30), (.int e30), (.int e30), (.int e30), (.int e30), (.int e30), (.int e30), (.int e30), (.int (0 : Int32)), (.int (0 : Int32)), (.int (0 : Int32)), (.int (0 : Int32)), (.int (0 : Int32)), (.int (0 : Int32)), (.int (0 : Int32)), (.int (0 : Int32)), (.int (0 : Int32)), (.int (0 : Int32)), (.int (0 : Int32)), (.int (0 : Int32)), (.int (0 : Int32)), (.int (0 : Int32)), (.int (0 : Int32)), (.int (0 : Int32)), (.int (0 : Int32)), (.int (0 : Int32)), (.int (0 : Int32)), (.int (0 : Int32)), (.int (0 : Int32)), (.int (0 : Int32)), (.int (0 : Int32)), (.int (0 : Int32)), (.int (0 : Int32)), (.int (0 : Int32)), (.int (0 : Int32)), (.int (0 : Int32)), (.int (0 : Int32)), (.int (0 : Int32)), (.int (0 : Int32)), (.int (0 : Int32)), (.int (0 : Int32)), (.int (0 : Int32)), (.int (0 : Int32)), (.int (0 : Int32)), (.int (0 : Int32)), (.int (0 : Int32)), (.int (0 : Int32)), (.int (0 : Int32)), (.int (0 : Int32)), (.int (0 : Int32)), (.int (0 : Int32)), (.int (0 : Int32)), (.int (0 : Int32))] := A106
    refine W.dup (pc' := 146) X d_m5_145 rfl rfl ?_
    refine W.bipush (pc' := 148) X (19 : Int32) d_m5_146 (by decide) rfl ?_
    refine W.iload (pc' := 150) X d_m5_148 rfl rfl ?_
    refine W.castore (pc' := 151) (i := 19) X A106 (by decide) rfl (ltb rfl) (hexc_nar F32) g47 nb48 d_m5_150 rfl fun T h107 X K108 A109 => ?_
    have A109 : Ar Z h107 a44 .char [(.int e6), (.int e30), (.int e30), (.int e30), (.int e30), (.int e30), (.int e30), (.int e30), (.int e30), (.int e30), (.int e30), (.int e30), (.int e30), (.int e30), (.int e30), (.int e30), (.int e30), (.int e30), (.int e30), (.int e30), (.int (0 : Int32)), (.int (0 : Int32)), (.int (0 : Int32)), (.int (0 : Int32)), (.int (0 : Int32)), (.int (0 : Int32)), (.int (0 : Int32)), (.int (0 : Int32)), (.int (0 : Int32)), (.int (0 : Int32)), (.int (0 : Int32)), (.int (0 : Int32)), (.int (0 : Int32)), (.int (0 : Int32)), (.int (0 : Int32)), (.int (0 : Int32)), (.int (0 : Int32)), (.int (0 : Int32)), (.int (0 : Int32)), (.int (0 : Int32)), (.int (0 : Int32)), (.int (0 : Int32)), (.int (0 : Int32)), (.int (0 : Int32)), (.int (0 : Int32)), (.int (0 : Int32)), (.int (0 : Int32)), (.int (0 : Int32)), (.int (0 : Int32)), (.int (0 : Int32)), (.int (0 : Int32)), (.int (0 : Int32)), (.int (0 : Int32)), (.int (0 : Int32)), (.int (0 : Int32)), (.int (0 : Int32)), (.int (0 : Int32)), (.int (0 : Int32)), (.int (0 : Int32)), (.int (0 : Int32)), (.int (0 : Int32)), (.int (0 : Int32)), (.int (0 : Int32)), (.int (0 : Int32))] := A109
    refine W.dup (pc' := 152) X d_m5_151 rfl rfl ?_
    refine W.bipush (pc' := 154) X (20 : Int32) d_m5_152 (by decide) rfl ?_
    refine W.iload (pc' := 156) X d_m5_154 rfl rfl ?_
    refine W.castore (pc' := 157) (i := 20) X A109 (by decide) rfl (ltb rfl) (hexc_nar F32) g47 nb48 d_m5_156 rfl fun T h110 X K111 A112 => ?_
    have A112 : Ar Z h110 a44 .char [(.int e6), (.int e30), (.int e30), (.int e30), (.int e30), (.int e30), (.int e30), (.int e30), (.int e30), (.int e30), (.int e30), (.int e30), (.int e30), (.int e30), (.int e30), (.int e30), (.int e30), (.int e30), (.int e30), (.int e30), (.int e30), (.int (0 : Int32)), (.int (0 : Int32)), (.int (0 : Int32)), (.int (0 : Int32)), (.int (0 : Int32)), (.int (0 : Int32)), (.int (0 : Int32)), (.int (0 : Int32)), (.int (0 : Int32)), (.int (0 : Int32)), (.int (0 : Int32)), (.int (0 : Int32)), (.int (0 : Int32)), (.int (0 : Int32)), (.int (0 : Int32)), (.int (0 : Int32)), (.int (0 : Int32)), (.int (0 : Int32)), (.int (0 : Int32)), (.int (0 : Int32)), (.int (0 : Int32)), (.int (0 : Int32)), (.int (0 : Int32)), (.int (0 : Int32)), (.int (0 : Int32)), (.int (0 : Int32)), (.int (0 : Int32)), (.int (0 : Int32)), (.int (0 : Int32)), (.int (0 : Int32)), (.int (0 : Int32)), (.int (0 : Int32)), (.int (0 : Int32)), (.int (0 : Int32)), (.int (0 : Int32)), (.int (0 : Int32)), (.int (0 : Int32)), (.int (0 : Int32)), (.int (0 : Int32)), (.int (0 : Int32)), (.int (0 : Int32)), (.int (0 : Int32)), (.int (0 : Int32))] := A112
    refine W.dup (pc' := 158) X d_m5_157 rfl rfl ?_
    refine W.bipush (pc' := 160) X (21 : Int32) d_m5_158 (by decide) rfl ?_
    refine W.iload (pc' := 162) X d_m5_160 rfl rfl ?_
    refine W.castore (pc' := 163) (i := 21) X A112 (by decide) rfl (ltb rfl) (hexc_nar F32) g47 nb48 d_m5_162 rfl fun T h113 X K114 A115 => ?_
    have A115 : Ar Z h113 a44 .char [(.int e6), (.int e30), (.int e30), (.int e30), (.int e30), (.int e30), (.int e30), (.int e30), (.int e30), (.int e30), (.int e30), (.int e30), (.int e30), (.int e30), (.int e30), (.int e30), (.int e30), (.int e30), (.int e30), (.int e30), (.int e30), (.int e30), (.int (0 : Int32)), (.int (0 : Int32)), (.int (0 : Int32)), (.int (0 : Int32)), (.int (0 : Int32)), (.int (0 : Int32)), (.int (0 : Int32)), (.int (0 : Int32)), (.int (0 : Int32)), (.int (0 : Int32)), (.int (0 : Int32)), (.int (0 : Int32)), (.int (0 : Int32)), (.int (0 : Int32)), (.int (0 : Int32)), (.int (0 : Int32)), (.int (0 : Int32)), (.int (0 : Int32)), (.int (0 : Int32)), (.int (0 : Int32)), (.int (0 : Int32)), (.int (0 : Int32)), (.int (0 : Int32)), (.int (0 : Int32)), (.int (0 : Int32)), (.int (0 : Int32)), (.int (0 : Int32)), (.int (0 : Int32)), (.int (0 : Int32)), (.int (0 : Int32)), (.int (0 : Int32)), (.int (0 : Int32)), (.int (0 : Int32)), (.int (0 : Int32)), (.int (0 : Int32)), (.int (0 : Int32)), (.int (0 : Int32)), (.int (0 : Int32)), (.int (0 : Int32)), (.int (0 : Int32)), (.int (0 : Int32)), (.int (0 : Int32))] := A115
    refine W.dup (pc' := 164) X d_m5_163 rfl rfl ?_
    refine W.bipush (pc' := 166) X (22 : Int32) d_m5_164 (by decide) rfl ?_
    refine W.iload (pc' := 168) X d_m5_166 rfl rfl ?_
    refine W.castore (pc' := 169) (i := 22) X A115 (by decide) rfl (ltb rfl) (hexc_nar F32) g47 nb48 d_m5_168 rfl fun T h116 X K117 A118 => ?_
    have A118 : Ar Z h116 a44 .char [(.int e6), (.int e30), (.int e30), (.int e30), (.int e30), (.int e30), (.int e30), (.int e30), (.int e30), (.int e30), (.int e30), (.int e30), (.int e30), (.int e30), (.int e30), (.int e30), (.int e30), (.int e30), (.int e30), (.int e30), (.int e30), (.int e30), (.int e30), (.int (0 : Int32)), (.int (0 : Int32)), (.int (0 : Int32)), (.int (0 : Int32)), (.int (0 : Int32)), (.int (0 : Int32)), (.int (0 : Int32)), (.int (0 : Int32)), (.int (0 : Int32)), (.int (0 : Int32)), (.int (0 : Int32)), (.int (0 : Int32)), (.int (0 : Int32)), (.int (0 : Int32)), (.int (0 : Int32)), (.int (0 : Int32)), (.int (0 : Int32)), (.int (0 : Int32)), (.int (0 : Int32)), (.int (0 : Int32)), (.int (0 : Int32)), (.int (0 : Int32)), (.int (0 : Int32)), (.int (0 : Int32)), (.int (0 : Int32)), (.int (0 : Int32)), (.int (0 : Int32)), (.int (0 : Int32)), (.int (0 : Int32)), (.int (0 : Int32)), (.int (0 : Int32)), (.int (0 : Int32)), (.int (0 : Int32)), (.int (0 : Int32)), (.int (0 : Int32)), (.int (0 : Int32)), (.int (0 : Int32)), (.int (0 : Int32)), (.int (0 : Int32)), (.int (0 : Int32)), (.int (0 : Int32))] := A118
    refine W.dup (pc' := 170) X d_m5_169 rfl rfl ?_
    refine W.bipush (pc' := 172) X (23 : Int32) d_m5_170 (by decide) rfl ?_
    refine W.iload (pc' := 174) X d_m5_172 rfl rfl ?_
    refine W.castore (pc' := 175) (i := 23) X A118 (by decide) rfl (ltb rfl) (hexc_nar F32) g47 nb48 d_m5_174 rfl fun T h119 X K120 A121 => ?_
    have A121 : Ar Z h119 a44 .char [(.int e6), (.int e30), (.int e30), (.int e30), (.int e30), (.int e30), (.int e30), (.int e30), (.int e30), (.int e30), (.int e30), (.int e30), (.int e30), (.int e30), (.int e30), (.int e30), (.int e30), (.int e30), (.int e30), (.int e30), (.int e30), (.int e30), (.int e30), (.int e30), (.int (0 : Int32)), (.int (0 : Int32)), (.int (0 : Int32)), (.int (0 : Int32)), (.int (0 : Int32)), (.int (0 : Int32)), (.int (0 : Int32)), (.int (0 : Int32)), (.int (0 : Int32)), (.int (0 : Int32)), (.int (0 : Int32)), (.int (0 : Int32)), (.int (0 : Int32)), (.int (0 : Int32)), (.int (0 : Int32)), (.int (0 : Int32)), (.int (0 : Int32)), (.int (0 : Int32)), (.int (0 : Int32)), (.int (0 : Int32)), (.int (0 : Int32)), (.int (0 : Int32)), (.int (0 : Int32)), (.int (0 : Int32)), (.int (0 : Int32)), (.int (0 : Int32)), (.int (0 : Int32)), (.int (0 : Int32)), (.int (0 : Int32)), (.int (0 : Int32)), (.int (0 : Int32)), (.int (0 : Int32)), (.int (0 : Int32)), (.int (0 : Int32)), (.int (0 : Int32)), (.int (0 : Int32)), (.int (0 : Int32)), (.int (0 : Int32)), (.int (0 : Int32)), (.int (0 : Int32))] := A121
    refine W.dup (pc' := 176) X d_m5_175 rfl rfl ?_
    refine W.bipush (pc' := 178) X (24 : Int32) d_m5_176 (by decide) rfl ?_
    refine W.iload (pc' := 180) X d_m5_178 rfl rfl ?_
    refine W.castore (pc' := 181) (i := 24) X A121 (by decide) rfl (ltb rfl) (hexc_nar F32) g47 nb48 d_m5_180 rfl fun T h122 X K123 A124 => ?_
    have A124 : Ar Z h122 a44 .char [(.int e6), (.int e30), (.int e30), (.int e30), (.int e30), (.int e30), (.int e30), (.int e30), (.int e30), (.int e30), (.int e30), (.int e30), (.int e30), (.int e30), (.int e30), (.int e30), (.int e30), (.int e30), (.int e30), (.int e30), (.int e30), (.int e30), (.int e30), (.int e30), (.int e30), (.int (0 : Int32)), (.int (0 : Int32)), (.int (0 : Int32)), (.int (0 : Int32)), (.int (0 : Int32)), (.int (0 : Int32)), (.int (0 : Int32)), (.int (0 : Int32)), (.int (0 : Int32)), (.int (0 : Int32)), (.int (0 : Int32)), (.int (0 : Int32)), (.int (0 : Int32)), (.int (0 : Int32)), (.int (0 : Int32)), (.int (0 : Int32)), (.int (0 : Int32)), (.int (0 : Int32)), (.int (0 : Int32)), (.int (0 : Int32)), (.int (0 : Int32)), (.int (0 : Int32)), (.int (0 : Int32)), (.int (0 : Int32)), (.int (0 : Int32)), (.int (0 : Int32)), (.int (0 : Int32)), (.int (0 : Int32)), (.int (0 : Int32)), (.int (0 : Int32)), (.int (0 : Int32)), (.int (0 : Int32)), (.int (0 : Int32)), (.int (0 : Int32)), (.int (0 : Int32)), (.int (0 : Int32)), (.int (0 : Int32)), (.int (0 : Int32)), (.int (0 : Int32))] := A124
    refine W.dup (pc' := 182) X d_m5_181 rfl rfl ?_
    refine W.bipush (pc' := 184) X (25 : Int32) d_m5_182 (by decide) rfl ?_
    refine W.iload (pc' := 186) X d_m5_184 rfl rfl ?_
    refine W.castore (pc' := 187) (i := 25) X A124 (by decide) rfl (ltb rfl) (hexc_nar F32) g47 nb48 d_m5_186 rfl fun T h125 X K126 A127 => ?_
    have A127 : Ar Z h125 a44 .char [(.int e6), (.int e30), (.int e30), (.int e30), (.int e30), (.int e30), (.int e30), (.int e30), (.int e30), (.int e30), (.int e30), (.int e30), (.int e30), (.int e30), (.int e30), (.int e30), (.int e30), (.int e30), (.int e30), (.int e30), (.int e30), (.int e30), (.int e30), (.int e30), (.int e30), (.int e30), (.int (0 : Int32)), (.int (0 : Int32)), (.int (0 : Int32)), (.int (0 : Int32)), (.int (0 : Int32)), (.int (0 : Int32)), (.int (0 : Int32)), (.int (0 : Int32)), (.int (0 : Int32)), (.int (0 : Int32)), (.int (0 : Int32)), (.int (0 : Int32)), (.int (0 : Int32)), (.int (0 : Int32)), (.int (0 : Int32)), (.int (0 : Int32)), (.int (0 : Int32)), (.int (0 : Int32)), (.int (0 : Int32)), (.int (0 : Int32)), (.int (0 : Int32)), (.int (0 : Int32)), (.int (0 : Int32)), (.int (0 : Int32)), (.int (0 : Int32)), (.int (0 : Int32)), (.int (0 : Int32)), (.int (0 : Int32)), (.int (0 : Int32)), (.int (0 : Int32)), (.int (0 : Int32)), (.int (0 : Int32)), (.int (0 : Int32)), (.int (0 : Int32)), (.int (0 : Int32)), (.int (0 : Int32)), (.int (0 : Int32)), (.int (0 : Int32))] := A127
    refine W.dup (pc' := 188) X d_m5_187 rfl rfl ?_
    refine W.bipush (pc' := 190) X (26 : Int32) d_m5_188 (by decide) rfl ?_
    refine W.iload (pc' := 192) X d_m5_190 rfl rfl ?_
    refine W.castore (pc' := 193) (i := 26) X A127 (by decide) rfl (ltb rfl) (hexc_nar F32) g47 nb48 d_m5_192 rfl fun T h128 X K129 A130 => ?_
    have A130 : Ar Z h128 a44 .char [(.int e6), (.int e30), (.int e30), (.int e30), (.int e30), (.int e30), (.int e30), (.int e30), (.int e30), (.int e30), (.int e30), (.int e30), (.int e30), (.int e30), (.int e30), (.int e30), (.int e30), (.int e30), (.int e30), (.int e30), (.int e30), (.int e30), (.int e30), (.int e30), (.int e30), (.int e30), (.int e30), (.int (0 : Int32)), (.int (0 : Int32)), (.int (0 : Int32)), (.int (0 : Int32)), (.int (0 : Int32)), (.int (0 : Int32)), (.int (0 : Int32)), (.int (0 : Int32)), (.int (0 : Int32)), (.int (0 : Int32)), (.int (0 : Int32)), (.int (0 : Int32)), (.int (0 : Int32)), (.int (0 : Int32)), (.int (0 : Int32)), (.int (0 : Int32)), (.int (0 : Int32)), (.int (0 : Int32)), (.int (0 : Int32)), (.int (0 : Int32)), (.int (0 : Int32)), (.int (0 : Int32)), (.int (0 : Int32)), (.int (0 : Int32)), (.int (0 : Int32)), (.int (0 : Int32)), (.int (0 : Int32)), (.int (0 : Int32)), (.int (0 : Int32)), (.int (0 : Int32)), (.int (0 : Int32)), (.int (0 : Int32)), (.int (0 : Int32)), (.int (0 : Int32)), (.int (0 : Int32)), (.int (0 : Int32)), (.int (0 : Int32))] := A130
    refine W.dup (pc' := 194) X d_m5_193 rfl rfl ?_
    refine W.bipush (pc' := 196) X (27 : Int32) d_m5_194 (by decide) rfl ?_
    refine W.iload (pc' := 198) X d_m5_196 rfl rfl ?_
    refine W.castore (pc' := 199) (i := 27) X A130 (by decide) rfl (ltb rfl) (hexc_nar F32) g47 nb48 d_m5_198 rfl fun T h131 X K132 A133 => ?_
    have A133 : Ar Z h131 a44 .char [(.int e6), (.int e30), (.int e30), (.int e30), (.int e30), (.int e30), (.int e30), (.int e30), (.int e30), (.int e30), (.int e30), (.int e30), (.int e30), (.int e30), (.int e30), (.int e30), (.int e30), (.int e30), (.int e30), (.int e30), (.int e30), (.int e30), (.int e30), (.int e30), (.int e30), (.int e30), (.int e30), (.int e30), (.int (0 : Int32)), (.int (0 : Int32)), (.int (0 : Int32)), (.int (0 : Int32)), (.int (0 : Int32)), (.int (0 : Int32)), (.int (0 : Int32)), (.int (0 : Int32)), (.int (0 : Int32)), (.int (0 : Int32)), (.int (0 : Int32)), (.int (0 : Int32)), (.int (0 : Int32)), (.int (0 : Int32)), (.int (0 : Int32)), (.int (0 : Int32)), (.int (0 : Int32)), (.int (0 : Int32)), (.int (0 : Int32)), (.int (0 : Int32)), (.int (0 : Int32)), (.int (0 : Int32)), (.int (0 : Int32)), (.int (0 : Int32)), (.int (0 : Int32)), (.int (0 : Int32)), (.int (0 : Int32)), (.int (0 : Int32)), (.int (0 : Int32)), (.int (0 : Int32)), (.int (0 : Int32)), (.int (0 : Int32)), (.int (0 : Int32)), (.int (0 : Int32)), (.int (0 : Int32)), (.int (0 : Int32))] := A133
    refine W.dup (pc' := 200) X d_m5_199 rfl rfl ?_
    refine W.bipush (pc' := 202) X (28 : Int32) d_m5_200 (by decide) rfl ?_
    refine W.iload (pc' := 204) X d_m5_202 rfl rfl ?_
    refine W.castore (pc' := 205) (i := 28) X A133 (by decide) rfl (ltb rfl) (hexc_nar F32) g47 nb48 d_m5_204 rfl fun T h134 X K135 A136 => ?_
    have A136 : Ar Z h134 a44 .char [(.int e6), (.int e30), (.int e30), (.int e30), (.int e30), (.int e30), (.int e30), (.int e30), (.int e30), (.int e30), (.int e30), (.int e30), (.int e30), (.int e30), (.int e30), (.int e30), (.int e30), (.int e30), (.int e30), (.int e30), (.int e30), (.int e30), (.int e30), (.int e30), (.int e30), (.int e30), (.int e30), (.int e30), (.int e30), (.int (0 : Int32)), (.int (0 : Int32)), (.int (0 : Int32)), (.int (0 : Int32)), (.int (0 : Int32)), (.int (0 : Int32)), (.int (0 : Int32)), (.int (0 : Int32)), (.int (0 : Int32)), (.int (0 : Int32)), (.int (0 : Int32)), (.int (0 : Int32)), (.int (0 : Int32)), (.int (0 : Int32)), (.int (0 : Int32)), (.int (0 : Int32)), (.int (0 : Int32)), (.int (0 : Int32)), (.int (0 : Int32)), (.int (0 : Int32)), (.int (0 : Int32)), (.int (0 : Int32)), (.int (0 : Int32)), (.int (0 : Int32)), (.int (0 : Int32)), (.int (0 : Int32)), (.int (0 : Int32)), (.int (0 : Int32)), (.int (0 : Int32)), (.int (0 : Int32)), (.int (0 : Int32)), (.int (0 : Int32)), (.int (0 : Int32)), (.int (0 : Int32)), (.int (0 : Int32))] := A136
    refine W.dup (pc' := 206) X d_m5_205 rfl rfl ?_
    refine W.bipush (pc' := 208) X (29 : Int32) d_m5_206 (by decide) rfl ?_
    refine W.iload (pc' := 210) X d_m5_208 rfl rfl ?_
    refine W.castore (pc' := 211) (i := 29) X A136 (by decide) rfl (ltb rfl) (hexc_nar F32) g47 nb48 d_m5_210 rfl fun T h137 X K138 A139 => ?_
    have A139 : Ar Z h137 a44 .char [(.int e6), (.int e30), (.int e30), (.int e30), (.int e30), (.int e30), (.int e30), (.int e30), (.int e30), (.int e30), (.int e30), (.int e30), (.int e30), (.int e30), (.int e30), (.int e30), (.int e30), (.int e30), (.int e30), (.int e30), (.int e30), (.int e30), (.int e30), (.int e30), (.int e30), (.int e30), (.int e30), (.int e30), (.int e30), (.int e30), (.int (0 : Int32)), (.int (0 : Int32)), (.int (0 : Int32)), (.int (0 : Int32)), (.int (0 : Int32)), (.int (0 : Int32)), (.int (0 : Int32)), (.int (0 : Int32)), (.int (0 : Int32)), (.int (0 : Int32)), (.int (0 : Int32)), (.int (0 : Int32)), (.int (0 : Int32)), (.int (0 : Int32)), (.int (0 : Int32)), (.int (0 : Int32)), (.int (0 : Int32)), (.int (0 : Int32)), (.int (0 : Int32)), (.int (0 : Int32)), (.int (0 : Int32)), (.int (0 : Int32)), (.int (0 : Int32)), (.int (0 : Int32)), (.int (0 : Int32)), (.int (0 : Int32)), (.int (0 : Int32)), (.int (0 : Int32)), (.int (0 : Int32)), (.int (0 : Int32)), (.int (0 : Int32)), (.int (0 : Int32)), (.int (0 : Int32)), (.int (0 : Int32))] := A139
    refine W.dup (pc' := 212) X d_m5_211 rfl rfl ?_
    refine W.bipush (pc' := 214) X (30 : Int32) d_m5_212 (by decide) rfl ?_
    refine W.iload (pc' := 216) X d_m5_214 rfl rfl ?_
    refine W.castore (pc' := 217) (i := 30) X A139 (by decide) rfl (ltb rfl) (hexc_nar F32) g47 nb48 d_m5_216 rfl fun T h140 X K141 A142 => ?_
    have A142 : Ar Z h140 a44 .char [(.int e6), (.int e30), (.int e30), (.int e30), (.int e30), (.int e30), (.int e30), (.int e30), (.int e30), (.int e30), (.int e30), (.int e30), (.int e30), (.int e30), (.int e30), (.int e30), (.int e30), (.int e30), (.int e30), (.int e30), (.int e30), (.int e30), (.int e30), (.int e30), (.int e30), (.int e30), (.int e30), (.int e30), (.int e30), (.int e30), (.int e30), (.int (0 : Int32)), (.int (0 : Int32)), (.int (0 : Int32)), (.int (0 : Int32)), (.int (0 : Int32)), (.int (0 : Int32)), (.int (0 : Int32)), (.int (0 : Int32)), (.int (0 : Int32)), (.int (0 : Int32)), (.int (0 : Int32)), (.int (0 : Int32)), (.int (0 : Int32)), (.int (0 : Int32)), (.int (0 : Int32)), (.int (0 : Int32)), (.int (0 : Int32)), (.int (0 : Int32)), (.int (0 : Int32)), (.int (0 : Int32)), (.int (0 : Int32)), (.int (0 : Int32)), (.int (0 : Int32)), (.int (0 : Int32)), (.int (0 : Int32)), (.int (0 : Int32)), (.int (0 : Int32)), (.int (0 : Int32)), (.int (0 : Int32)), (.int (0 : Int32)), (.int (0 : Int32)), (.int (0 : Int32)), (.int (0 : Int32))] := A142
    refine W.dup (pc' := 218) X d_m5_217 rfl rfl ?_
    refine W.bipush (pc' := 220) X (31 : Int32) d_m5_218 (by decide) rfl ?_
    refine W.iload (pc' := 222) X d_m5_220 rfl rfl ?_
    refine W.castore (pc' := 223) (i := 31) X A142 (by decide) rfl (ltb rfl) (hexc_nar F32) g47 nb48 d_m5_222 rfl fun T h143 X K144 A145 => ?_
    have A145 : Ar Z h143 a44 .char [(.int e6), (.int e30), (.int e30), (.int e30), (.int e30), (.int e30), (.int e30), (.int e30), (.int e30), (.int e30), (.int e30), (.int e30), (.int e30), (.int e30), (.int e30), (.int e30), (.int e30), (.int e30), (.int e30), (.int e30), (.int e30), (.int e30), (.int e30), (.int e30), (.int e30), (.int e30), (.int e30), (.int e30), (.int e30), (.int e30), (.int e30), (.int e30), (.int (0 : Int32)), (.int (0 : Int32)), (.int (0 : Int32)), (.int (0 : Int32)), (.int (0 : Int32)), (.int (0 : Int32)), (.int (0 : Int32)), (.int (0 : Int32)), (.int (0 : Int32)), (.int (0 : Int32)), (.int (0 : Int32)), (.int (0 : Int32)), (.int (0 : Int32)), (.int (0 : Int32)), (.int (0 : Int32)), (.int (0 : Int32)), (.int (0 : Int32)), (.int (0 : Int32)), (.int (0 : Int32)), (.int (0 : Int32)), (.int (0 : Int32)), (.int (0 : Int32)), (.int (0 : Int32)), (.int (0 : Int32)), (.int (0 : Int32)), (.int (0 : Int32)), (.int (0 : Int32)), (.int (0 : Int32)), (.int (0 : Int32)), (.int (0 : Int32)), (.int (0 : Int32)), (.int (0 : Int32))] := A145
    refine W.dup (pc' := 224) X d_m5_223 rfl rfl ?_
    refine W.bipush (pc' := 226) X (32 : Int32) d_m5_224 (by decide) rfl ?_
    refine W.iload (pc' := 228) X d_m5_226 rfl rfl ?_
    refine W.castore (pc' := 229) (i := 32) X A145 (by decide) rfl (ltb rfl) (hexc_nar F16) g47 nb48 d_m5_228 rfl fun T h146 X K147 A148 => ?_
    have A148 : Ar Z h146 a44 .char [(.int e6), (.int e30), (.int e30), (.int e30), (.int e30), (.int e30), (.int e30), (.int e30), (.int e30), (.int e30), (.int e30), (.int e30), (.int e30), (.int e30), (.int e30), (.int e30), (.int e30), (.int e30), (.int e30), (.int e30), (.int e30), (.int e30), (.int e30), (.int e30), (.int e30), (.int e30), (.int e30), (.int e30), (.int e30), (.int e30), (.int e30), (.int e30), (.int e14), (.int (0 : Int32)), (.int (0 : Int32)), (.int (0 : Int32)), (.int (0 : Int32)), (.int (0 : Int32)), (.int (0 : Int32)), (.int (0 : Int32)), (.int (0 : Int32)), (.int (0 : Int32)), (.int (0 : Int32)), (.int (0 : Int32)), (.int (0 : Int32)), (.int (0 : Int32)), (.int (0 : Int32)), (.int (0 : Int32)), (.int (0 : Int32)), (.int (0 : Int32)), (.int (0 : Int32)), (.int (0 : Int32)), (.int (0 : Int32)), (.int (0 : Int32)), (.int (0 : Int32)), (.int (0 : Int32)), (.int (0 : Int32)), (.int (0 : Int32)), (.int (0 : Int32)), (.int (0 : Int32)), (.int (0 : Int32)), (.int (0 : Int32)), (.int (0 : Int32)), (.int (0 : Int32))] := A148
    refine W.dup (pc' := 230) X d_m5_229 rfl rfl ?_
    refine W.bipush (pc' := 232) X (33 : Int32) d_m5_230 (by decide) rfl ?_
    refine W.iload (pc' := 234) X d_m5_232 rfl rfl ?_
    refine W.castore (pc' := 235) (i := 33) X A148 (by decide) rfl (ltb rfl) (hexc_nar F32) g47 nb48 d_m5_234 rfl fun T h149 X K150 A151 => ?_
    have A151 : Ar Z h149 a44 .char [(.int e6), (.int e30), (.int e30), (.int e30), (.int e30), (.int e30), (.int e30), (.int e30), (.int e30), (.int e30), (.int e30), (.int e30), (.int e30), (.int e30), (.int e30), (.int e30), (.int e30), (.int e30), (.int e30), (.int e30), (.int e30), (.int e30), (.int e30), (.int e30), (.int e30), (.int e30), (.int e30), (.int e30), (.int e30), (.int e30), (.int e30), (.int e30), (.int e14), (.int e30), (.int (0 : Int32)), (.int (0 : Int32)), (.int (0 : Int32)), (.int (0 : Int32)), (.int (0 : Int32)), (.int (0 : Int32)), (.int (0 : Int32)), (.int (0 : Int32)), (.int (0 : Int32)), (.int (0 : Int32)), (.int (0 : Int32)), (.int (0 : Int32)), (.int (0 : Int32)), (.int (0 : Int32)), (.int (0 : Int32)), (.int (0 : Int32)), (.int (0 : Int32)), (.int (0 : Int32)), (.int (0 : Int32)), (.int (0 : Int32)), (.int (0 : Int32)), (.int (0 : Int32)), (.int (0 : Int32)), (.int (0 : Int32)), (.int (0 : Int32)), (.int (0 : Int32)), (.int (0 : Int32)), (.int (0 : Int32)), (.int (0 : Int32)), (.int (0 : Int32))] := A151
    refine W.dup (pc' := 236) X d_m5_235 rfl rfl ?_
    refine W.bipush (pc' := 238) X (34 : Int32) d_m5_236 (by decide) rfl ?_
    refine W.iload (pc' := 240) X d_m5_238 rfl rfl ?_
    refine W.castore (pc' := 241) (i := 34) X A151 (by decide) rfl (ltb rfl) (hexc_nar F32) g47 nb48 d_m5_240 rfl fun T h152 X K153 A154 => ?_
    have A154 : Ar Z h152 a44 .char [(.int e6), (.int e30), (.int e30), (.int e30), (.int e30), (.int e30), (.int e30), (.int e30), (.int e30), (.int e30), (.int e30), (.int e30), (.int e30), (.int e30), (.int e30), (.int e30), (.int e30), (.int e30), (.int e30), (.int e30), (.int e30), (.int e30), (.int e30), (.int e30), (.int e30), (.int e30), (.int e30), (.int e30), (.int e30), (.int e30), (.int e30), (.int e30), (.int e14), (.int e30), (.int e30), (.int (0 : Int32)), (.int (0 : Int32)), (.int (0 : Int32)), (.int (0 : Int32)), (.int (0 : Int32)), (.int (0 : Int32)), (.int (0 : Int32)), (.int (0 : Int32)), (.int (0 : Int32)), (.int (0 : Int32)), (.int (0 : Int32)), (.int (0 : Int32)), (.int (0 : Int32)), (.int (0 : Int32)), (.int (0 : Int32)), (.int (0 : Int32)), (.int (0 : Int32)), (.int (0 : Int32)), (.int (0 : Int32)), (.int (0 : Int32)), (.int (0 : Int32)), (.int (0 : Int32)), (.int (0 : Int32)), (.int (0 : Int32)), (.int (0 : Int32)), (.int (0 : Int32)), (.int (0 : Int32)), (.int (0 : Int32)), (.int (0 : Int32))] := A154
    refine W.dup (pc' := 242) X d_m5_241 rfl rfl ?_
    refine W.bipush (pc' := 244) X (35 : Int32) d_m5_242 (by decide) rfl ?_
    refine W.iload (pc' := 246) X d_m5_244 rfl rfl ?_
    refine W.castore (pc' := 247) (i := 35) X A154 (by decide) rfl (ltb rfl) (hexc_nar F32) g47 nb48 d_m5_246 rfl fun T h155 X K156 A157 => ?_
    have A157 : Ar Z h155 a44 .char [(.int e6), (.int e30), (.int e30), (.int e30), (.int e30), (.int e30), (.int e30), (.int e30), (.int e30), (.int e30), (.int e30), (.int e30), (.int e30), (.int e30), (.int e30), (.int e30), (.int e30), (.int e30), (.int e30), (.int e30), (.int e30), (.int e30), (.int e30), (.int e30), (.int e30), (.int e30), (.int e30), (.int e30), (.int e30), (.int e30), (.int e30), (.int e30), (.int e14), (.int e30), (.int e30), (.int e30), (.int (0 : Int32)), (.int (0 : Int32)), (.int (0 : Int32)), (.int (0 : Int32)), (.int (0 : Int32)), (.int (0 : Int32)), (.int (0 : Int32)), (.int (0 : Int32)), (.int (0 : Int32)), (.int (0 : Int32)), (.int (0 : Int32)), (.int (0 : Int32)), (.int (0 : Int32)), (.int (0 : Int32)), (.int (0 : Int32)), (.int (0 : Int32)), (.int (0 : Int32)), (.int (0 : Int32)), (.int (0 : Int32)), (.int (0 : Int32)), (.int (0 : Int32)), (.int (0 : Int32)), (.int (0 : Int32)), (.int (0 : Int32)), (.int (0 : Int32)), (.int (0 : Int32)), (.int (0 : Int32)), (.int (0 : Int32))] := A157
    refine W.dup (pc' := 248) X d_m5_247 rfl rfl ?_
    refine W.bipush (pc' := 250) X (36 : Int32) d_m5_248 (by decide) rfl ?_
    refine W.iload (pc' := 252) X d_m5_250 rfl rfl ?_
    refine W.castore (pc' := 253) (i := 36) X A157 (by decide) rfl (ltb rfl) (hexc_nar F32) g47 nb48 d_m5_252 rfl fun T h158 X K159 A160 => ?_
    have A160 : Ar Z h158 a44 .char [(.int e6), (.int e30), (.int e30), (.int e30), (.int e30), (.int e30), (.int e30), (.int e30), (.int e30), (.int e30), (.int e30), (.int e30), (.int e30), (.int e30), (.int e30), (.int e30), (.int e30), (.int e30), (.int e30), (.int e30), (.int e30), (.int e30), (.int e30), (.int e30), (.int e30), (.int e30), (.int e30), (.int e30), (.int e30), (.int e30), (.int e30), (.int e30), (.int e14), (.int e30), (.int e30), (.int e30), (.int e30), (.int (0 : Int32)), (.int (0 : Int32)), (.int (0 : Int32)), (.int (0 : Int32)), (.int (0 : Int32)), (.int (0 : Int32)), (.int (0 : Int32)), (.int (0 : Int32)), (.int (0 : Int32)), (.int (0 : Int32)), (.int (0 : Int32)), (.int (0 : Int32)), (.int (0 : Int32)), (.int (0 : Int32)), (.int (0 : Int32)), (.int (0 : Int32)), (.int (0 : Int32)), (.int (0 : Int32)), (.int (0 : Int32)), (.int (0 : Int32)), (.int (0 : Int32)), (.int (0 : Int32)), (.int (0 : Int32)), (.int (0 : Int32)), (.int (0 : Int32)), (.int (0 : Int32)), (.int (0 : Int32))] := A160
    refine W.dup (pc' := 254) X d_m5_253 rfl rfl ?_
    refine W.bipush (pc' := 256) X (37 : Int32) d_m5_254 (by decide) rfl ?_
    refine W.iload (pc' := 258) X d_m5_256 rfl rfl ?_
    refine W.castore (pc' := 259) (i := 37) X A160 (by decide) rfl (ltb rfl) (hexc_nar F32) g47 nb48 d_m5_258 rfl fun T h161 X K162 A163 => ?_
    have A163 : Ar Z h161 a44 .char [(.int e6), (.int e30), (.int e30), (.int e30), (.int e30), (.int e30), (.int e30), (.int e30), (.int e30), (.int e30), (.int e30), (.int e30), (.int e30), (.int e30), (.int e30), (.int e30), (.int e30), (.int e30), (.int e30), (.int e30), (.int e30), (.int e30), (.int e30), (.int e30), (.int e30), (.int e30), (.int e30), (.int e30), (.int e30), (.int e30), (.int e30), (.int e30), (.int e14), (.int e30), (.int e30), (.int e30), (.int e30), (.int e30), (.int (0 : Int32)), (.int (0 : Int32)), (.int (0 : Int32)), (.int (0 : Int32)), (.int (0 : Int32)), (.int (0 : Int32)), (.int (0 : Int32)), (.int (0 : Int32)), (.int (0 : Int32)), (.int (0 : Int32)), (.int (0 : Int32)), (.int (0 : Int32)), (.int (0 : Int32)), (.int (0 : Int32)), (.int (0 : Int32)), (.int (0 : Int32)), (.int (0 : Int32)), (.int (0 : Int32)), (.int (0 : Int32)), (.int (0 : Int32)), (.int (0 : Int32)), (.int (0 : Int32)), (.int (0 : Int32)), (.int (0 : Int32)), (.int (0 : Int32)), (.int (0 : Int32))] := A163
    refine W.dup (pc' := 260) X d_m5_259 rfl rfl ?_
    refine W.bipush (pc' := 262) X (38 : Int32) d_m5_260 (by decide) rfl ?_
    refine W.iload (pc' := 264) X d_m5_262 rfl rfl ?_
    refine W.castore (pc' := 265) (i := 38) X A163 (by decide) rfl (ltb rfl) (hexc_nar F32) g47 nb48 d_m5_264 rfl fun T h164 X K165 A166 => ?_
    have A166 : Ar Z h164 a44 .char [(.int e6), (.int e30), (.int e30), (.int e30), (.int e30), (.int e30), (.int e30), (.int e30), (.int e30), (.int e30), (.int e30), (.int e30), (.int e30), (.int e30), (.int e30), (.int e30), (.int e30), (.int e30), (.int e30), (.int e30), (.int e30), (.int e30), (.int e30), (.int e30), (.int e30), (.int e30), (.int e30), (.int e30), (.int e30), (.int e30), (.int e30), (.int e30), (.int e14), (.int e30), (.int e30), (.int e30), (.int e30), (.int e30), (.int e30), (.int (0 : Int32)), (.int (0 : Int32)), (.int (0 : Int32)), (.int (0 : Int32)), (.int (0 : Int32)), (.int (0 : Int32)), (.int (0 : Int32)), (.int (0 : Int32)), (.int (0 : Int32)), (.int (0 : Int32)), (.int (0 : Int32)), (.int (0 : Int32)), (.int (0 : Int32)), (.int (0 : Int32)), (.int (0 : Int32)), (.int (0 : Int32)), (.int (0 : Int32)), (.int (0 : Int32)), (.int (0 : Int32)), (.int (0 : Int32)), (.int (0 : Int32)), (.int (0 : Int32)), (.int (0 : Int32)), (.int (0 : Int32)), (.int (0 : Int32))] := A166
    refine W.dup (pc' := 266) X d_m5_265 rfl rfl ?_
    refine W.bipush (pc' := 268) X (39 : Int32) d_m5_266 (by decide) rfl ?_
    refine W.iload (pc' := 270) X d_m5_268 rfl rfl ?_
    refine W.castore (pc' := 271) (i := 39) X A166 (by decide) rfl (ltb rfl) (hexc_nar F32) g47 nb48 d_m5_270 rfl fun T h167 X K168 A169 => ?_
    have A169 : Ar Z h167 a44 .char [(.int e6), (.int e30), (.int e30), (.int e30), (.int e30), (.int e30), (.int e30), (.int e30), (.int e30), (.int e30), (.int e30), (.int e30), (.int e30), (.int e30), (.int e30), (.int e30), (.int e30), (.int e30), (.int e30), (.int e30), (.int e30), (.int e30), (.int e30), (.int e30), (.int e30), (.int e30), (.int e30), (.int e30), (.int e30), (.int e30), (.int e30), (.int e30), (.int e14), (.int e30), (.int e30), (.int e30), (.int e30), (.int e30), (.int e30), (.int e30), (.int (0 : Int32)), (.int (0 : Int32)), (.int (0 : Int32)), (.int (0 : Int32)), (.int (0 : Int32)), (.int (0 : Int32)), (.int (0 : Int32)), (.int (0 : Int32)), (.int (0 : Int32)), (.int (0 : Int32)), (.int (0 : Int32)), (.int (0 : Int32)), (.int (0 : Int32)), (.int (0 : Int32)), (.int (0 : Int32)), (.int (0 : Int32)), (.int (0 : Int32)), (.int (0 : Int32)), (.int (0 : Int32)), (.int (0 : Int32)), (.int (0 : Int32)), (.int (0 : Int32)), (.int (0 : Int32)), (.int (0 : Int32))] := A169
    refine W.dup (pc' := 272) X d_m5_271 rfl rfl ?_
    refine W.bipush (pc' := 274) X (40 : Int32) d_m5_272 (by decide) rfl ?_
    refine W.iload (pc' := 276) X d_m5_274 rfl rfl ?_
    refine W.castore (pc' := 277) (i := 40) X A169 (by decide) rfl (ltb rfl) (hexc_nar F32) g47 nb48 d_m5_276 rfl fun T h170 X K171 A172 => ?_
    have A172 : Ar Z h170 a44 .char [(.int e6), (.int e30), (.int e30), (.int e30), (.int e30), (.int e30), (.int e30), (.int e30), (.int e30), (.int e30), (.int e30), (.int e30), (.int e30), (.int e30), (.int e30), (.int e30), (.int e30), (.int e30), (.int e30), (.int e30), (.int e30), (.int e30), (.int e30), (.int e30), (.int e30), (.int e30), (.int e30), (.int e30), (.int e30), (.int e30), (.int e30), (.int e30), (.int e14), (.int e30), (.int e30), (.int e30), (.int e30), (.int e30), (.int e30), (.int e30), (.int e30), (.int (0 : Int32)), (.int (0 : Int32)), (.int (0 : Int32)), (.int (0 : Int32)), (.int (0 : Int32)), (.int (0 : Int32)), (.int (0 : Int32)), (.int (0 : Int32)), (.int (0 : Int32)), (.int (0 : Int32)), (.int (0 : Int32)), (.int (0 : Int32)), (.int (0 : Int32)), (.int (0 : Int32)), (.int (0 : Int32)), (.int (0 : Int32)), (.int (0 : Int32)), (.int (0 : Int32)), (.int (0 : Int32)), (.int (0 : Int32)), (.int (0 : Int32)), (.int (0 : Int32)), (.int (0 : Int32))] := A172
    refine W.dup (pc' := 278) X d_m5_277 rfl rfl ?_
    refine W.bipush (pc' := 280) X (41 : Int32) d_m5_278 (by decide) rfl ?_
    refine W.iload (pc' := 282) X d_m5_280 rfl rfl ?_
    refine W.castore (pc' := 283) (i := 41) X A172 (by decide) rfl (ltb rfl) (hexc_nar F32) g47 nb48 d_m5_282 rfl fun T h173 X K174 A175 => ?_
    have A175 : Ar Z h173 a44 .char [(.int e6), (.int e30), (.int e30), (.int e30), (.int e30), (.int e30), (.int e30), (.int e30), (.int e30), (.int e30), (.int e30), (.int e30), (.int e30), (.int e30), (.int e30), (.int e30), (.int e30), (.int e30), (.int e30), (.int e30), (.int e30), (.int e30), (.int e30), (.int e30), (.int e30), (.int e30), (.int e30), (.int e30), (.int e30), (.int e30), (.int e30), (.int e30), (.int e14), (.int e30), (.int e30), (.int e30), (.int e30), (.int e30), (.int e30), (.int e30), (.int e30), (.int e30), (.int (0 : Int32)), (.int (0 : Int32)), (.int (0 : Int32)), (.int (0 : Int32)), (.int (0 : Int32)), (.int (0 : Int32)), (.int (0 : Int32)), (.int (0 : Int32)), (.int (0 : Int32)), (.int (0 : Int32)), (.int (0 : Int32)), (.int (0 : Int32)), (.int (0 : Int32)), (.int (0 : Int32)), (.int (0 : Int32)), (.int (0 : Int32)), (.int (0 : Int32)), (.int (0 : Int32)), (.int (0 : Int32)), (.int (0 : Int32)), (.int (0 : Int32)), (.int (0 : Int32))] := A175
    refine W.dup (pc' := 284) X d_m5_283 rfl rfl ?_
    refine W.bipush (pc' := 286) X (42 : Int32) d_m5_284 (by decide) rfl ?_
    refine W.iload (pc' := 288) X d_m5_286 rfl rfl ?_
    refine W.castore (pc' := 289) (i := 42) X A175 (by decide) rfl (ltb rfl) (hexc_nar F32) g47 nb48 d_m5_288 rfl fun T h176 X K177 A178 => ?_
    have A178 : Ar Z h176 a44 .char [(.int e6), (.int e30), (.int e30), (.int e30), (.int e30), (.int e30), (.int e30), (.int e30), (.int e30), (.int e30), (.int e30), (.int e30), (.int e30), (.int e30), (.int e30), (.int e30), (.int e30), (.int e30), (.int e30), (.int e30), (.int e30), (.int e30), (.int e30), (.int e30), (.int e30), (.int e30), (.int e30), (.int e30), (.int e30), (.int e30), (.int e30), (.int e30), (.int e14), (.int e30), (.int e30), (.int e30), (.int e30), (.int e30), (.int e30), (.int e30), (.int e30), (.int e30), (.int e30), (.int (0 : Int32)), (.int (0 : Int32)), (.int (0 : Int32)), (.int (0 : Int32)), (.int (0 : Int32)), (.int (0 : Int32)), (.int (0 : Int32)), (.int (0 : Int32)), (.int (0 : Int32)), (.int (0 : Int32)), (.int (0 : Int32)), (.int (0 : Int32)), (.int (0 : Int32)), (.int (0 : Int32)), (.int (0 : Int32)), (.int (0 : Int32)), (.int (0 : Int32)), (.int (0 : Int32)), (.int (0 : Int32)), (.int (0 : Int32)), (.int (0 : Int32))] := A178
    refine W.dup (pc' := 290) X d_m5_289 rfl rfl ?_
    refine W.bipush (pc' := 292) X (43 : Int32) d_m5_290 (by decide) rfl ?_
    refine W.iload (pc' := 294) X d_m5_292 rfl rfl ?_
    refine W.castore (pc' := 295) (i := 43) X A178 (by decide) rfl (ltb rfl) (hexc_nar F32) g47 nb48 d_m5_294 rfl fun T h179 X K180 A181 => ?_
    have A181 : Ar Z h179 a44 .char [(.int e6), (.int e30), (.int e30), (.int e30), (.int e30), (.int e30), (.int e30), (.int e30), (.int e30), (.int e30), (.int e30), (.int e30), (.int e30), (.int e30), (.int e30), (.int e30), (.int e30), (.int e30), (.int e30), (.int e30), (.int e30), (.int e30), (.int e30), (.int e30), (.int e30), (.int e30), (.int e30), (.int e30), (.int e30), (.int e30), (.int e30), (.int e30), (.int e14), (.int e30), (.int e30), (.int e30), (.int e30), (.int e30), (.int e30), (.int e30), (.int e30), (.int e30), (.int e30), (.int e30), (.int (0 : Int32)), (.int (0 : Int32)), (.int (0 : Int32)), (.int (0 : Int32)), (.int (0 : Int32)), (.int (0 : Int32)), (.int (0 : Int32)), (.int (0 : Int32)), (.int (0 : Int32)), (.int (0 : Int32)), (.int (0 : Int32)), (.int (0 : Int32)), (.int (0 : Int32)), (.int (0 : Int32)), (.int (0 : Int32)), (.int (0 : Int32)), (.int (0 : Int32)), (.int (0 : Int32)), (.int (0 : Int32)), (.int (0 : Int32))] := A181
    refine W.dup (pc' := 296) X d_m5_295 rfl rfl ?_
    refine W.bipush (pc' := 298) X (44 : Int32) d_m5_296 (by decide) rfl ?_
    refine W.iload (pc' := 300) X d_m5_298 rfl rfl ?_
    refine W.castore (pc' := 301) (i := 44) X A181 (by decide) rfl (ltb rfl) (hexc_nar F32) g47 nb48 d_m5_300 rfl fun T h182 X K183 A184 => ?_
    have A184 : Ar Z h182 a44 .char [(.int e6), (.int e30), (.int e30), (.int e30), (.int e30), (.int e30), (.int e30), (.int e30), (.int e30), (.int e30), (.int e30), (.int e30), (.int e30), (.int e30), (.int e30), (.int e30), (.int e30), (.int e30), (.int e30), (.int e30), (.int e30), (.int e30), (.int e30), (.int e30), (.int e30), (.int e30), (.int e30), (.int e30), (.int e30), (.int e30), (.int e30), (.int e30), (.int e14), (.int e30), (.int e30), (.int e30), (.int e30), (.int e30), (.int e30), (.int e30), (.int e30), (.int e30), (.int e30), (.int e30), (.int e30), (.int (0 : Int32)), (.int (0 : Int32)), (.int (0 : Int32)), (.int (0 : Int32)), (.int (0 : Int32)), (.int (0 : Int32)), (.int (0 : Int32)), (.int (0 : Int32)), (.int (0 : Int32)), (.int (0 : Int32)), (.int (0 : Int32)), (.int (0 : Int32)), (.int (0 : Int32)), (.int (0 : Int32)), (.int (0 : Int32)), (.int (0 : Int32)), (.int (0 : Int32)), (.int (0 : Int32)), (.int (0 : Int32))] := A184
    refine W.dup (pc' := 302) X d_m5_301 rfl rfl ?_
    refine W.bipush (pc' := 304) X (45 : Int32) d_m5_302 (by decide) rfl ?_
    refine W.iload (pc' := 306) X d_m5_304 rfl rfl ?_
    refine W.castore (pc' := 307) (i := 45) X A184 (by decide) rfl (ltb rfl) (hexc_nar F32) g47 nb48 d_m5_306 rfl fun T h185 X K186 A187 => ?_
    have A187 : Ar Z h185 a44 .char [(.int e6), (.int e30), (.int e30), (.int e30), (.int e30), (.int e30), (.int e30), (.int e30), (.int e30), (.int e30), (.int e30), (.int e30), (.int e30), (.int e30), (.int e30), (.int e30), (.int e30), (.int e30), (.int e30), (.int e30), (.int e30), (.int e30), (.int e30), (.int e30), (.int e30), (.int e30), (.int e30), (.int e30), (.int e30), (.int e30), (.int e30), (.int e30), (.int e14), (.int e30), (.int e30), (.int e30), (.int e30), (.int e30), (.int e30), (.int e30), (.int e30), (.int e30), (.int e30), (.int e30), (.int e30), (.int e30), (.int (0 : Int32)), (.int (0 : Int32)), (.int (0 : Int32)), (.int (0 : Int32)), (.int (0 : Int32)), (.int (0 : Int32)), (.int (0 : Int32)), (.int (0 : Int32)), (.int (0 : Int32)), (.int (0 : Int32)), (.int (0 : Int32)), (.int (0 : Int32)), (.int (0 : Int32)), (.int (0 : Int32)), (.int (0 : Int32)), (.int (0 : Int32)), (.int (0 : Int32)), (.int (0 : Int32))] := A187
    refine W.dup (pc' := 308) X d_m5_307 rfl rfl ?_
    refine W.bipush (pc' := 310) X (46 : Int32) d_m5_308 (by decide) rfl ?_
    refine W.iload (pc' := 312) X d_m5_310 rfl rfl ?_
    refine W.castore (pc' := 313) (i := 46) X A187 (by decide) rfl (ltb rfl) (hexc_nar F32) g47 nb48 d_m5_312 rfl fun T h188 X K189 A190 => ?_
    have A190 : Ar Z h188 a44 .char [(.int e6), (.int e30), (.int e30), (.int e30), (.int e30), (.int e30), (.int e30), (.int e30), (.int e30), (.int e30), (.int e30), (.int e30), (.int e30), (.int e30), (.int e30), (.int e30), (.int e30), (.int e30), (.int e30), (.int e30), (.int e30), (.int e30), (.int e30), (.int e30), (.int e30), (.int e30), (.int e30), (.int e30), (.int e30), (.int e30), (.int e30), (.int e30), (.int e14), (.int e30), (.int e30), (.int e30), (.int e30), (.int e30), (.int e30), (.int e30), (.int e30), (.int e30), (.int e30), (.int e30), (.int e30), (.int e30), (.int e30), (.int (0 : Int32)), (.int (0 : Int32)), (.int (0 : Int32)), (.int (0 : Int32)), (.int (0 : Int32)), (.int (0 : Int32)), (.int (0 : Int32)), (.int (0 : Int32)), (.int (0 : Int32)), (.int (0 : Int32)), (.int (0 : Int32)), (.int (0 : Int32)), (.int (0 : Int32)), (.int (0 : Int32)), (.int (0 : Int32)), (.int (0 : Int32)), (.int (0 : Int32))] := A190
    refine W.dup (pc' := 314) X d_m5_313 rfl rfl ?_
    refine W.bipush (pc' := 316) X (47 : Int32) d_m5_314 (by decide) rfl ?_
    refine W.iload (pc' := 318) X d_m5_316 rfl rfl ?_
    refine W.castore (pc' := 319) (i := 47) X A190 (by decide) rfl (ltb rfl) (hexc_nar F32) g47 nb48 d_m5_318 rfl fun T h191 X K192 A193 => ?_
    have A193 : Ar Z h191 a44 .char [(.int e6), (.int e30), (.int e30), (.int e30), (.int e30), (.int e30), (.int e30), (.int e30), (.int e30), (.int e30), (.int e30), (.int e30), (.int e30), (.int e30), (.int e30), (.int e30), (.int e30), (.int e30), (.int e30), (.int e30), (.int e30), (.int e30), (.int e30), (.int e30), (.int e30), (.int e30), (.int e30), (.int e30), (.int e30), (.int e30), (.int e30), (.int e30), (.int e14), (.int e30), (.int e30), (.int e30), (.int e30), (.int e30), (.int e30), (.int e30), (.int e30), (.int e30), (.int e30), (.int e30), (.int e30), (.int e30), (.int e30), (.int e30), (.int (0 : Int32)), (.int (0 : Int32)), (.int (0 : Int32)), (.int (0 : Int32)), (.int (0 : Int32)), (.int (0 : Int32)), (.int (0 : Int32)), (.int (0 : Int32)), (.int (0 : Int32)), (.int (0 : Int32)), (.int (0 : Int32)), (.int (0 : Int32)), (.int (0 : Int32)), (.int (0 : Int32)), (.int (0 : Int32)), (.int (0 : Int32))] := A193
    refine W.dup (pc' := 320) X d_m5_319 rfl rfl ?_
    refine W.bipush (pc' := 322) X (48 : Int32) d_m5_320 (by decide) rfl ?_
    refine W.iload (pc' := 324) X d_m5_322 rfl rfl ?_
    refine W.castore (pc' := 325) (i := 48) X A193 (by decide) rfl (ltb rfl) (hexc_nar F32) g47 nb48 d_m5_324 rfl fun T h194 X K195 A196 => ?_
    have A196 : Ar Z h194 a44 .char [(.int e6), (.int e30), (.int e30), (.int e30), (.int e30), (.int e30), (.int e30), (.int e30), (.int e30), (.int e30), (.int e30), (.int e30), (.int e30), (.int e30), (.int e30), (.int e30), (.int e30), (.int e30), (.int e30), (.int e30), (.int e30), (.int e30), (.int e30), (.int e30), (.int e30), (.int e30), (.int e30), (.int e30), (.int e30), (.int e30), (.int e30), (.int e30), (.int e14), (.int e30), (.int e30), (.int e30), (.int e30), (.int e30), (.int e30), (.int e30), (.int e30), (.int e30), (.int e30), (.int e30), (.int e30), (.int e30), (.int e30), (.int e30), (.int e30), (.int (0 : Int32)), (.int (0 : Int32)), (.int (0 : Int32)), (.int (0 : Int32)), (.int (0 : Int32)), (.int (0 : Int32)), (.int (0 : Int32)), (.int (0 : Int32)), (.int (0 : Int32)), (.int (0 : Int32)), (.int (0 : Int32)), (.int (0 : Int32)), (.int (0 : Int32)), (.int (0 : Int32)), (.int (0 : Int32))] := A196
    refine W.dup (pc' := 326) X d_m5_325 rfl rfl ?_
    refine W.bipush (pc' := 328) X (49 : Int32) d_m5_326 (by decide) rfl ?_
    refine W.iload (pc' := 330) X d_m5_328 rfl rfl ?_
    refine W.castore (pc' := 331) (i := 49) X A196 (by decide) rfl (ltb rfl) (hexc_nar F32) g47 nb48 d_m5_330 rfl fun T h197 X K198 A199 => ?_
    have A199 : Ar Z h197 a44 .char [(.int e6), (.int e30), (.int e30), (.int e30), (.int e30), (.int e30), (.int e30), (.int e30), (.int e30), (.int e30), (.int e30), (.int e30), (.int e30), (.int e30), (.int e30), (.int e30), (.int e30), (.int e30), (.int e30), (.int e30), (.int e30), (.int e30), (.int e30), (.int e30), (.int e30), (.int e30), (.int e30), (.int e30), (.int e30), (.int e30), (.int e30), (.int e30), (.int e14), (.int e30), (.int e30), (.int e30), (.int e30), (.int e30), (.int e30), (.int e30), (.int e30), (.int e30), (.int e30), (.int e30), (.int e30), (.int e30), (.int e30), (.int e30), (.int e30), (.int e30), (.int (0 : Int32)), (.int (0 : Int32)), (.int (0 : Int32)), (.int (0 : Int32)), (.int (0 : Int32)), (.int (0 : Int32)), (.int (0 : Int32)), (.int (0 : Int32)), (.int (0 : Int32)), (.int (0 : Int32)), (.int (0 : Int32)), (.int (0 : Int32)), (.int (0 : Int32)), (.int (0 : Int32))] := A199
    refine W.dup (pc' := 332) X d_m5_331 rfl rfl ?_
    refine W.bipush (pc' := 334) X (50 : Int32) d_m5_332 (by decide) rfl ?_
    refine W.iload (pc' := 336) X d_m5_334 rfl rfl ?_
    refine W.castore (pc' := 337) (i := 50) X A199 (by decide) rfl (ltb rfl) (hexc_nar F32) g47 nb48 d_m5_336 rfl fun T h200 X K201 A202 => ?_
    have A202 : Ar Z h200 a44 .char [(.int e6), (.int e30), (.int e30), (.int e30), (.int e30), (.int e30), (.int e30), (.int e30), (.int e30), (.int e30), (.int e30), (.int e30), (.int e30), (.int e30), (.int e30), (.int e30), (.int e30), (.int e30), (.int e30), (.int e30), (.int e30), (.int e30), (.int e30), (.int e30), (.int e30), (.int e30), (.int e30), (.int e30), (.int e30), (.int e30), (.int e30), (.int e30), (.int e14), (.int e30), (.int e30), (.int e30), (.int e30), (.int e30), (.int e30), (.int e30), (.int e30), (.int e30), (.int e30), (.int e30), (.int e30), (.int e30), (.int e30), (.int e30), (.int e30), (.int e30), (.int e30), (.int (0 : Int32)), (.int (0 : Int32)), (.int (0 : Int32)), (.int (0 : Int32)), (.int (0 : Int32)), (.int (0 : Int32)), (.int (0 : Int32)), (.int (0 : Int32)), (.int (0 : Int32)), (.int (0 : Int32)), (.int (0 : Int32)), (.int (0 : Int32)), (.int (0 : Int32))] := A202
    refine W.dup (pc' := 338) X d_m5_337 rfl rfl ?_
    refine W.bipush (pc' := 340) X (51 : Int32) d_m5_338 (by decide) rfl ?_
    refine W.iload (pc' := 342) X d_m5_340 rfl rfl ?_
    refine W.castore (pc' := 343) (i := 51) X A202 (by decide) rfl (ltb rfl) (hexc_nar F32) g47 nb48 d_m5_342 rfl fun T h203 X K204 A205 => ?_
    have A205 : Ar Z h203 a44 .char [(.int e6), (.int e30), (.int e30), (.int e30), (.int e30), (.int e30), (.int e30), (.int e30), (.int e30), (.int e30), (.int e30), (.int e30), (.int e30), (.int e30), (.int e30), (.int e30), (.int e30), (.int e30), (.int e30), (.int e30), (.int e30), (.int e30), (.int e30), (.int e30), (.int e30), (.int e30), (.int e30), (.int e30), (.int e30), (.int e30), (.int e30), (.int e30), (.int e14), (.int e30), (.int e30), (.int e30), (.int e30), (.int e30), (.int e30), (.int e30), (.int e30), (.int e30), (.int e30), (.int e30), (.int e30), (.int e30), (.int e30), (.int e30), (.int e30), (.int e30), (.int e30), (.int e30), (.int (0 : Int32)), (.int (0 : Int32)), (.int (0 : Int32)), (.int (0 : Int32)), (.int (0 : Int32)), (.int (0 : Int32)), (.int (0 : Int32)), (.int (0 : Int32)), (.int (0 : Int32)), (.int (0 : Int32)), (.int (0 : Int32)), (.int (0 : Int32))] := A205
    refine W.dup (pc' := 344) X d_m5_343 rfl rfl ?_
    refine W.bipush (pc' := 346) X (52 : Int32) d_m5_344 (by decide) rfl ?_
    refine W.iload (pc' := 348) X d_m5_346 rfl rfl ?_
    refine W.castore (pc' := 349) (i := 52) X A205 (by decide) rfl (ltb rfl) (hexc_nar F32) g47 nb48 d_m5_348 rfl fun T h206 X K207 A208 => ?_
    have A208 : Ar Z h206 a44 .char [(.int e6), (.int e30), (.int e30), (.int e30), (.int e30), (.int e30), (.int e30), (.int e30), (.int e30), (.int e30), (.int e30), (.int e30), (.int e30), (.int e30), (.int e30), (.int e30), (.int e30), (.int e30), (.int e30), (.int e30), (.int e30), (.int e30), (.int e30), (.int e30), (.int e30), (.int e30), (.int e30), (.int e30), (.int e30), (.int e30), (.int e30), (.int e30), (.int e14), (.int e30), (.int e30), (.int e30), (.int e30), (.int e30), (.int e30), (.int e30), (.int e30), (.int e30), (.int e30), (.int e30), (.int e30), (.int e30), (.int e30), (.int e30), (.int e30), (.int e30), (.int e30), (.int e30), (.int e30), (.int (0 : Int32)), (.int (0 : Int32)), (.int (0 : Int32)), (.int (0 : Int32)), (.int (0 : Int32)), (.int (0 : Int32)), (.int (0 : Int32)), (.int (0 : Int32)), (.int (0 : Int32)), (.int (0 : Int32)), (.int (0 : Int32))] := A208
    refine W.dup (pc' := 350) X d_m5_349 rfl rfl ?_
    refine W.bipush (pc' := 352) X (53 : Int32) d_m5_350 (by decide) rfl ?_
    refine W.iload (pc' := 354) X d_m5_352 rfl rfl ?_
    refine W.castore (pc' := 355) (i := 53) X A208 (by decide) rfl (ltb rfl) (hexc_nar F32) g47 nb48 d_m5_354 rfl fun T h209 X K210 A211 => ?_
    have A211 : Ar Z h209 a44 .char [(.int e6), (.int e30), (.int e30), (.int e30), (.int e30), (.int e30), (.int e30), (.int e30), (.int e30), (.int e30), (.int e30), (.int e30), (.int e30), (.int e30), (.int e30), (.int e30), (.int e30), (.int e30), (.int e30), (.int e30), (.int e30), (.int e30), (.int e30), (.int e30), (.int e30), (.int e30), (.int e30), (.int e30), (.int e30), (.int e30), (.int e30), (.int e30), (.int e14), (.int e30), (.int e30), (.int e30), (.int e30), (.int e30), (.int e30), (.int e30), (.int e30), (.int e30), (.int e30), (.int e30), (.int e30), (.int e30), (.int e30), (.int e30), (.int e30), (.int e30), (.int e30), (.int e30), (.int e30), (.int e30), (.int (0 : Int32)), (.int (0 : Int32)), (.int (0 : Int32)), (.int (0 : Int32)), (.int (0 : Int32)), (.int (0 : Int32)), (.int (0 : Int32)), (.int (0 : Int32)), (.int (0 : Int32)), (.int (0 : Int32))] := A211
    refine W.dup (pc' := 356) X d_m5_355 rfl rfl ?_
    refine W.bipush (pc' := 358) X (54 : Int32) d_m5_356 (by decide) rfl ?_
    refine W.iload (pc' := 360) X d_m5_358 rfl rfl ?_
    refine W.castore (pc' := 361) (i := 54) X A211 (by decide) rfl (ltb rfl) (hexc_nar F32) g47 nb48 d_m5_360 rfl fun T h212 X K213 A214 => ?_
    have A214 : Ar Z h212 a44 .char [(.int e6), (.int e30), (.int e30), (.int e30), (.int e30), (.int e30), (.int e30), (.int e30), (.int e30), (.int e30), (.int e30), (.int e30), (.int e30), (.int e30), (.int e30), (.int e30), (.int e30), (.int e30), (.int e30), (.int e30), (.int e30), (.int e30), (.int e30), (.int e30), (.int e30), (.int e30), (.int e30), (.int e30), (.int e30), (.int e30), (.int e30), (.int e30), (.int e14), (.int e30), (.int e30), (.int e30), (.int e30), (.int e30), (.int e30), (.int e30), (.int e30), (.int e30), (.int e30), (.int e30), (.int e30), (.int e30), (.int e30), (.int e30), (.int e30), (.int e30), (.int e30), (.int e30), (.int e30), (.int e30), (.int e30), (.int (0 : Int32)), (.int (0 : Int32)), (.int (0 : Int32)), (.int (0 : Int32)), (.int (0 : Int32)), (.int (0 : Int32)), (.int (0 : Int32)), (.int (0 : Int32)), (.int (0 : Int32))] := A214
    refine W.dup (pc' := 362) X d_m5_361 rfl rfl ?_
    refine W.bipush (pc' := 364) X (55 : Int32) d_m5_362 (by decide) rfl ?_
    refine W.iload (pc' := 366) X d_m5_364 rfl rfl ?_
    refine W.castore (pc' := 367) (i := 55) X A214 (by decide) rfl (ltb rfl) (hexc_nar F32) g47 nb48 d_m5_366 rfl fun T h215 X K216 A217 => ?_
    have A217 : Ar Z h215 a44 .char [(.int e6), (.int e30), (.int e30), (.int e30), (.int e30), (.int e30), (.int e30), (.int e30), (.int e30), (.int e30), (.int e30), (.int e30), (.int e30), (.int e30), (.int e30), (.int e30), (.int e30), (.int e30), (.int e30), (.int e30), (.int e30), (.int e30), (.int e30), (.int e30), (.int e30), (.int e30), (.int e30), (.int e30), (.int e30), (.int e30), (.int e30), (.int e30), (.int e14), (.int e30), (.int e30), (.int e30), (.int e30), (.int e30), (.int e30), (.int e30), (.int e30), (.int e30), (.int e30), (.int e30), (.int e30), (.int e30), (.int e30), (.int e30), (.int e30), (.int e30), (.int e30), (.int e30), (.int e30), (.int e30), (.int e30), (.int e30), (.int (0 : Int32)), (.int (0 : Int32)), (.int (0 : Int32)), (.int (0 : Int32)), (.int (0 : Int32)), (.int (0 : Int32)), (.int (0 : Int32)), (.int (0 : Int32))] := A217
    refine W.dup (pc' := 368) X d_m5_367 rfl rfl ?_
    refine W.bipush (pc' := 370) X (56 : Int32) d_m5_368 (by decide) rfl ?_
    refine W.iload (pc' := 372) X d_m5_370 rfl rfl ?_
    refine W.castore (pc' := 373) (i := 56) X A217 (by decide) rfl (ltb rfl) (hexc_nar F32) g47 nb48 d_m5_372 rfl fun T h218 X K219 A220 => ?_
    have A220 : Ar Z h218 a44 .char [(.int e6), (.int e30), (.int e30), (.int e30), (.int e30), (.int e30), (.int e30), (.int e30), (.int e30), (.int e30), (.int e30), (.int e30), (.int e30), (.int e30), (.int e30), (.int e30), (.int e30), (.int e30), (.int e30), (.int e30), (.int e30), (.int e30), (.int e30), (.int e30), (.int e30), (.int e30), (.int e30), (.int e30), (.int e30), (.int e30), (.int e30), (.int e30), (.int e14), (.int e30), (.int e30), (.int e30), (.int e30), (.int e30), (.int e30), (.int e30), (.int e30), (.int e30), (.int e30), (.int e30), (.int e30), (.int e30), (.int e30), (.int e30), (.int e30), (.int e30), (.int e30), (.int e30), (.int e30), (.int e30), (.int e30), (.int e30), (.int e30), (.int (0 : Int32)), (.int (0 : Int32)), (.int (0 : Int32)), (.int (0 : Int32)), (.int (0 : Int32)), (.int (0 : Int32)), (.int (0 : Int32))] := A220
    refine W.dup (pc' := 374) X d_m5_373 rfl rfl ?_
    refine W.bipush (pc' := 376) X (57 : Int32) d_m5_374 (by decide) rfl ?_
    refine W.iload (pc' := 378) X d_m5_376 rfl rfl ?_
    refine W.castore (pc' := 379) (i := 57) X A220 (by decide) rfl (ltb rfl) (hexc_nar F32) g47 nb48 d_m5_378 rfl fun T h221 X K222 A223 => ?_
    have A223 : Ar Z h221 a44 .char [(.int e6), (.int e30), (.int e30), (.int e30), (.int e30), (.int e30), (.int e30), (.int e30), (.int e30), (.int e30), (.int e30), (.int e30), (.int e30), (.int e30), (.int e30), (.int e30), (.int e30), (.int e30), (.int e30), (.int e30), (.int e30), (.int e30), (.int e30), (.int e30), (.int e30), (.int e30), (.int e30), (.int e30), (.int e30), (.int e30), (.int e30), (.int e30), (.int e14), (.int e30), (.int e30), (.int e30), (.int e30), (.int e30), (.int e30), (.int e30), (.int e30), (.int e30), (.int e30), (.int e30), (.int e30), (.int e30), (.int e30), (.int e30), (.int e30), (.int e30), (.int e30), (.int e30), (.int e30), (.int e30), (.int e30), (.int e30), (.int e30), (.int e30), (.int (0 : Int32)), (.int (0 : Int32)), (.int (0 : Int32)), (.int (0 : Int32)), (.int (0 : Int32)), (.int (0 : Int32))] := A223
    refine W.dup (pc' := 380) X d_m5_379 rfl rfl ?_
    refine W.bipush (pc' := 382) X (58 : Int32) d_m5_380 (by decide) rfl ?_
    refine W.iload (pc' := 384) X d_m5_382 rfl rfl ?_
    refine W.castore (pc' := 385) (i := 58) X A223 (by decide) rfl (ltb rfl) (hexc_nar F32) g47 nb48 d_m5_384 rfl fun T h224 X K225 A226 => ?_
    have A226 : Ar Z h224 a44 .char [(.int e6), (.int e30), (.int e30), (.int e30), (.int e30), (.int e30), (.int e30), (.int e30), (.int e30), (.int e30), (.int e30), (.int e30), (.int e30), (.int e30), (.int e30), (.int e30), (.int e30), (.int e30), (.int e30), (.int e30), (.int e30), (.int e30), (.int e30), (.int e30), (.int e30), (.int e30), (.int e30), (.int e30), (.int e30), (.int e30), (.int e30), (.int e30), (.int e14), (.int e30), (.int e30), (.int e30), (.int e30), (.int e30), (.int e30), (.int e30), (.int e30), (.int e30), (.int e30), (.int e30), (.int e30), (.int e30), (.int e30), (.int e30), (.int e30), (.int e30), (.int e30), (.int e30), (.int e30), (.int e30), (.int e30), (.int e30), (.int e30), (.int e30), (.int e30), (.int (0 : Int32)), (.int (0 : Int32)), (.int (0 : Int32)), (.int (0 : Int32)), (.int (0 : Int32))] := A226
    refine W.dup (pc' := 386) X d_m5_385 rfl rfl ?_
    refine W.bipush (pc' := 388) X (59 : Int32) d_m5_386 (by decide) rfl ?_
    refine W.iload (pc' := 390) X d_m5_388 rfl rfl ?_
    refine W.castore (pc' := 391) (i := 59) X A226 (by decide) rfl (ltb rfl) (hexc_nar F32) g47 nb48 d_m5_390 rfl fun T h227 X K228 A229 => ?_
    have A229 : Ar Z h227 a44 .char [(.int e6), (.int e30), (.int e30), (.int e30), (.int e30), (.int e30), (.int e30), (.int e30), (.int e30), (.int e30), (.int e30), (.int e30), (.int e30), (.int e30), (.int e30), (.int e30), (.int e30), (.int e30), (.int e30), (.int e30), (.int e30), (.int e30), (.int e30), (.int e30), (.int e30), (.int e30), (.int e30), (.int e30), (.int e30), (.int e30), (.int e30), (.int e30), (.int e14), (.int e30), (.int e30), (.int e30), (.int e30), (.int e30), (.int e30), (.int e30), (.int e30), (.int e30), (.int e30), (.int e30), (.int e30), (.int e30), (.int e30), (.int e30), (.int e30), (.int e30), (.int e30), (.int e30), (.int e30), (.int e30), (.int e30), (.int e30), (.int e30), (.int e30), (.int e30), (.int e30), (.int (0 : Int32)), (.int (0 : Int32)), (.int (0 : Int32)), (.int (0 : Int32))] := A229
    refine W.dup (pc' := 392) X d_m5_391 rfl rfl ?_
    refine W.bipush (pc' := 394) X (60 : Int32) d_m5_392 (by decide) rfl ?_
    refine W.iload (pc' := 396) X d_m5_394 rfl rfl ?_
    refine W.castore (pc' := 397) (i := 60) X A229 (by decide) rfl (ltb rfl) (hexc_nar F32) g47 nb48 d_m5_396 rfl fun T h230 X K231 A232 => ?_
    have A232 : Ar Z h230 a44 .char [(.int e6), (.int e30), (.int e30), (.int e30), (.int e30), (.int e30), (.int e30), (.int e30), (.int e30), (.int e30), (.int e30), (.int e30), (.int e30), (.int e30), (.int e30), (.int e30), (.int e30), (.int e30), (.int e30), (.int e30), (.int e30), (.int e30), (.int e30), (.int e30), (.int e30), (.int e30), (.int e30), (.int e30), (.int e30), (.int e30), (.int e30), (.int e30), (.int e14), (.int e30), (.int e30), (.int e30), (.int e30), (.int e30), (.int e30), (.int e30), (.int e30), (.int e30), (.int e30), (.int e30), (.int e30), (.int e30), (.int e30), (.int e30), (.int e30), (.int e30), (.int e30), (.int e30), (.int e30), (.int e30), (.int e30), (.int e30), (.int e30), (.int e30), (.int e30), (.int e30), (.int e30), (.int (0 : Int32)), (.int (0 : Int32)), (.int (0 : Int32))] := A232
    refine W.dup (pc' := 398) X d_m5_397 rfl rfl ?_
    refine W.bipush (pc' := 400) X (61 : Int32) d_m5_398 (by decide) rfl ?_
    refine W.iload (pc' := 402) X d_m5_400 rfl rfl ?_
    refine W.castore (pc' := 403) (i := 61) X A232 (by decide) rfl (ltb rfl) (hexc_nar F32) g47 nb48 d_m5_402 rfl fun T h233 X K234 A235 => ?_
    have A235 : Ar Z h233 a44 .char [(.int e6), (.int e30), (.int e30), (.int e30), (.int e30), (.int e30), (.int e30), (.int e30), (.int e30), (.int e30), (.int e30), (.int e30), (.int e30), (.int e30), (.int e30), (.int e30), (.int e30), (.int e30), (.int e30), (.int e30), (.int e30), (.int e30), (.int e30), (.int e30), (.int e30), (.int e30), (.int e30), (.int e30), (.int e30), (.int e30), (.int e30), (.int e30), (.int e14), (.int e30), (.int e30), (.int e30), (.int e30), (.int e30), (.int e30), (.int e30), (.int e30), (.int e30), (.int e30), (.int e30), (.int e30), (.int e30), (.int e30), (.int e30), (.int e30), (.int e30), (.int e30), (.int e30), (.int e30), (.int e30), (.int e30), (.int e30), (.int e30), (.int e30), (.int e30), (.int e30), (.int e30), (.int e30), (.int (0 : Int32)), (.int (0 : Int32))] := A235
    refine W.dup (pc' := 404) X d_m5_403 rfl rfl ?_
    refine W.bipush (pc' := 406) X (62 : Int32) d_m5_404 (by decide) rfl ?_
    refine W.iload (pc' := 408) X d_m5_406 rfl rfl ?_
    refine W.castore (pc' := 409) (i := 62) X A235 (by decide) rfl (ltb rfl) (hexc_nar F32) g47 nb48 d_m5_408 rfl fun T h236 X K237 A238 => ?_
    have A238 : Ar Z h236 a44 .char [(.int e6), (.int e30), (.int e30), (.int e30), (.int e30), (.int e30), (.int e30), (.int e30), (.int e30), (.int e30), (.int e30), (.int e30), (.int e30), (.int e30), (.int e30), (.int e30), (.int e30), (.int e30), (.int e30), (.int e30), (.int e30), (.int e30), (.int e30), (.int e30), (.int e30), (.int e30), (.int e30), (.int e30), (.int e30), (.int e30), (.int e30), (.int e30), (.int e14), (.int e30), (.int e30), (.int e30), (.int e30), (.int e30), (.int e30), (.int e30), (.int e30), (.int e30), (.int e30), (.int e30), (.int e30), (.int e30), (.int e30), (.int e30), (.int e30), (.int e30), (.int e30), (.int e30), (.int e30), (.int e30), (.int e30), (.int e30), (.int e30), (.int e30), (.int e30), (.int e30), (.int e30), (.int e30), (.int e30), (.int (0 : Int32))] := A238
    refine W.dup (pc' := 410) X d_m5_409 rfl rfl ?_
    refine W.bipush (pc' := 412) X (63 : Int32) d_m5_410 (by decide) rfl ?_
    refine W.iload (pc' := 414) X d_m5_412 rfl rfl ?_
    refine W.castore (pc' := 415) (i := 63) X A238 (by decide) rfl (ltb rfl) (hexc_nar F24) g47 nb48 d_m5_414 rfl fun T h239 X K240 A241 => ?_
    have A241 : Ar Z h239 a44 .char [(.int e6), (.int e30), (.int e30), (.int e30), (.int e30), (.int e30), (.int e30), (.int e30), (.int e30), (.int e30), (.int e30), (.int e30), (.int e30), (.int e30), (.int e30), (.int e30), (.int e30), (.int e30), (.int e30), (.int e30), (.int e30), (.int e30), (.int e30), (.int e30), (.int e30), (.int e30), (.int e30), (.int e30), (.int e30), (.int e30), (.int e30), (.int e30), (.int e14), (.int e30), (.int e30), (.int e30), (.int e30), (.int e30), (.int e30), (.int e30), (.int e30), (.int e30), (.int e30), (.int e30), (.int e30), (.int e30), (.int e30), (.int e30), (.int e30), (.int e30), (.int e30), (.int e30), (.int e30), (.int e30), (.int e30), (.int e30), (.int e30), (.int e30), (.int e30), (.int e30), (.int e30), (.int e30), (.int e30), (.int e22)] := A241
    have F242 := (((((((((((((((((((((((((((((((((((((((((((((((((((((((((((((((((E39.keep K45).keep K51).keep K54).keep K57).keep K60).keep K63).keep K66).keep K69).keep K72).keep K75).keep K78).keep K81).keep K84).keep K87).keep K90).keep K93).keep K96).keep K99).keep K102).keep K105).keep K108).keep K111).keep K114).keep K117).keep K120).keep K123).keep K126).keep K129).keep K132).keep K135).keep K138).keep K141).keep K144).keep K147).keep K150).keep K153).keep K156).keep K159).keep K162).keep K165).keep K168).keep K171).keep K174).keep K177).keep K180).keep K183).keep K186).keep K189).keep K192).keep K195).keep K198).keep K201).keep K204).keep K207).keep K210).keep K213).keep K216).keep K219).keep K222).keep K225).keep K228).keep K231).keep K234).keep K237).keep K240)
    have F243 := (((((((((((((((((((((((((((((((((((((((((((((((((((((((((((((((((F41.keep K45 nin0).keep K51 (ninS (Nat.ne_of_lt (Nat.lt_of_lt_of_le E39.lt (Nat.le_trans (Nat.le_refl _) g46))) nin0)).keep K54 (ninS (Nat.ne_of_lt (Nat.lt_of_lt_of_le E39.lt (Nat.le_trans (Nat.le_refl _) g46))) nin0)).keep K57 (ninS (Nat.ne_of_lt (Nat.lt_of_lt_of_le E39.lt (Nat.le_trans (Nat.le_refl _) g46))) nin0)).keep K60 (ninS (Nat.ne_of_lt (Nat.lt_of_lt_of_le E39.lt (Nat.le_trans (Nat.le_refl _) g46))) nin0)).keep K63 (ninS (Nat.ne_of_lt (Nat.lt_of_lt_of_le E39.lt (Nat.le_trans (Nat.le_refl _) g46))) nin0)).keep K66 (ninS (Nat.ne_of_lt (Nat.lt_of_lt_of_le E39.lt (Nat.le_trans (Nat.le_refl _) g46))) nin0)).keep K69 (ninS (Nat.ne_of_lt (Nat.lt_of_lt_of_le E39.lt (Nat.le_trans (Nat.le_refl _) g46))) nin0)).keep K72 (ninS (Nat.ne_of_lt (Nat.lt_of_lt_of_le E39.lt (Nat.le_trans (Nat.le_refl _) g46))) nin0)).keep K75 (ninS (Nat.ne_of_lt (Nat.lt_of_lt_of_le E39.lt (Nat.le_trans (Nat.le_refl _) g46))) nin0)).keep K78 (ninS (Nat.ne_of_lt (Nat.lt_of_lt_of_le E39.lt (Nat.le_trans (Nat.le_refl _) g46))) nin0)).keep K81 (ninS (Nat.ne_of_lt (Nat.lt_of_lt_of_le E39.lt (Nat.le_trans (Nat.le_refl _) g46))) nin0)).keep K84 (ninS (Nat.ne_of_lt (Nat.lt_of_lt_of_le E39.lt (Nat.le_trans (Nat.le_refl _) g46))) nin0)).keep K87 (ninS (Nat.ne_of_lt (Nat.lt_of_lt_of_le E39.lt (Nat.le_trans (Nat.le_refl _) g46))) nin0)).keep K90 (ninS (Nat.ne_of_lt (Nat.lt_of_lt_of_le E39.lt (Nat.le_trans (Nat.le_refl _) g46))) nin0)).keep K93 (ninS (Nat.ne_of_lt (Nat.lt_of_lt_of_le E39.lt (Nat.le_trans (Nat.le_refl _) g46))) nin0)).keep K96 (ninS (Nat.ne_of_lt (Nat.lt_of_lt_of_le E39.lt (Nat.le_trans (Nat.le_refl _) g46))) nin0)).keep K99 (ninS (Nat.ne_of_lt (Nat.lt_of_lt_of_le E39.lt (Nat.le_trans (Nat.le_refl _) g46))) nin0)).keep K102 (ninS (Nat.ne_of_lt (Nat.lt_of_lt_of_le E39.lt (Nat.le_trans (Nat.le_refl _) g46))) nin0)).keep K105 (ninS (Nat.ne_of_lt (Nat.lt_of_lt_of_le E39.lt (Nat.le_trans (Nat.le_refl _) g46))) nin0)).keep K108 (ninS (Nat.ne_of_lt (Nat.lt_of_lt_of_le E39.lt (Nat.le_trans (Nat.le_refl _) g46))) nin0)).keep K111 (ninS (Nat.ne_of_lt (Nat.lt_of_lt_of_le E39.lt (Nat.le_trans (Nat.le_refl _) g46))) nin0)).keep K114 (ninS (Nat.ne_of_lt (Nat.lt_of_lt_of_le E39.lt (Nat.le_trans (Nat.le_refl _) g46))) nin0)).keep K117 (ninS (Nat.ne_of_lt (Nat.lt_of_lt_of_le E39.lt (Nat.le_trans (Nat.le_refl _) g46))) nin0)).keep K120 (ninS (Nat.ne_of_lt (Nat.lt_of_lt_of_le E39.lt (Nat.le_trans (Nat.le_refl _) g46))) nin0)).keep K123 (ninS (Nat.ne_of_lt (Nat.lt_of_lt_of_le E39.lt (Nat.le_trans (Nat.le_refl _) g46))) nin0)).keep K126 (ninS (Nat.ne_of_lt (Nat.lt_of_lt_of_le E39.lt (Nat.le_trans (Nat.le_refl _) g46))) nin0)).keep K129 (ninS (Nat.ne_of_lt (Nat.lt_of_lt_of_le E39.lt (Nat.le_trans (Nat.le_refl _) g46))) nin0)).keep K132 (ninS (Nat.ne_of_lt (Nat.lt_of_lt_of_le E39.lt (Nat.le_trans (Nat.le_refl _) g46))) nin0)).keep K135 (ninS (Nat.ne_of_lt (Nat.lt_of_lt_of_le E39.lt (Nat.le_trans (Nat.le_refl _) g46))) nin0)).keep K138 (ninS (Nat.ne_of_lt (Nat.lt_of_lt_of_le E39.lt (Nat.le_trans (Nat.le_refl _) g46))) nin0)).keep K141 (ninS (Nat.ne_of_lt (Nat.lt_of_lt_of_le E39.lt (Nat.le_trans (Nat.le_refl _) g46))) nin0)).keep K144 (ninS (Nat.ne_of_lt (Nat.lt_of_lt_of_le E39.lt (Nat.le_trans (Nat.le_refl _) g46))) nin0)).keep K147 (ninS (Nat.ne_of_lt (Nat.lt_of_lt_of_le E39.lt (Nat.le_trans (Nat.le_refl _) g46))) nin0)).keep K150 (ninS (Nat.ne_of_lt (Nat.lt_of_lt_of_le E39.lt (Nat.le_trans (Nat.le_refl _) g46))) nin0)).keep K153 (ninS (Nat.ne_of_lt (Nat.lt_of_lt_of_le E39.lt (Nat.le_trans (Nat.le_refl _) g46))) nin0)).keep K156 (ninS (Nat.ne_of_lt (Nat.lt_of_lt_of_le E39.lt (Nat.le_trans (Nat.le_refl _) g46))) nin0)).keep K159 (ninS (Nat.ne_of_lt (Nat.lt_of_lt_of_le E39.lt (Nat.le_trans (Nat.le_refl _) g46))) nin0)).keep K162 (ninS (Nat.ne_of_lt (Nat.lt_of_lt_of_le E39.lt (Nat.le_trans (Nat.le_refl _) g46))) nin0)).keep K165 (ninS (Nat.ne_of_lt (Nat.lt_of_lt_of_le E39.lt (Nat.le_trans (Nat.le_refl _) g46))) nin0)).keep K168 (ninS (Nat.ne_of_lt (Nat.lt_of_lt_of_le E39.lt (Nat.le_trans (Nat.le_refl _) g46))) nin0)).keep K171 (ninS (Nat.ne_of_lt (Nat.lt_of_lt_of_le E39.lt (Nat.le_trans (Nat.le_refl _) g46))) nin0)).keep K174 (ninS (Nat.ne_of_lt (Nat.lt_of_lt_of_le E39.lt (Nat.le_trans (Nat.le_refl _) g46))) nin0)).keep K177 (ninS (Nat.ne_of_lt (Nat.lt_of_lt_of_le E39.lt (Nat.le_trans (Nat.le_refl _) g46))) nin0)).keep K180 (ninS (Nat.ne_of_lt (Nat.lt_of_lt_of_le E39.lt (Nat.le_trans (Nat.le_refl _) g46))) nin0)).keep K183 (ninS (Nat.ne_of_lt (Nat.lt_of_lt_of_le E39.lt (Nat.le_trans (Nat.le_refl _) g46))) nin0)).keep K186 (ninS (Nat.ne_of_lt (Nat.lt_of_lt_of_le E39.lt (Nat.le_trans (Nat.le_refl _) g46))) nin0)).keep K189 (ninS (Nat.ne_of_lt (Nat.lt_of_lt_of_le E39.lt (Nat.le_trans (Nat.le_refl _) g46))) nin0)).keep K192 (ninS (Nat.ne_of_lt (Nat.lt_of_lt_of_le E39.lt (Nat.le_trans (Nat.le_refl _) g46))) nin0)).keep K195 (ninS (Nat.ne_of_lt (Nat.lt_of_lt_of_le E39.lt (Nat.le_trans (Nat.le_refl _) g46))) nin0)).keep K198 (ninS (Nat.ne_of_lt (Nat.lt_of_lt_of_le E39.lt (Nat.le_trans (Nat.le_refl _) g46))) nin0)).keep K201 (ninS (Nat.ne_of_lt (Nat.lt_of_lt_of_le E39.lt (Nat.le_trans (Nat.le_refl _) g46))) nin0)).keep K204 (ninS (Nat.ne_of_lt (Nat.lt_of_lt_of_le E39.lt (Nat.le_trans (Nat.le_refl _) g46))) nin0)).keep K207 (ninS (Nat.ne_of_lt (Nat.lt_of_lt_of_le E39.lt (Nat.le_trans (Nat.le_refl _) g46))) nin0)).keep K210 (ninS (Nat.ne_of_lt (Nat.lt_of_lt_of_le E39.lt (Nat.le_trans (Nat.le_refl _) g46))) nin0)).keep K213 (ninS (Nat.ne_of_lt (Nat.lt_of_lt_of_le E39.lt (Nat.le_trans (Nat.le_refl _) g46))) nin0)).keep K216 (ninS (Nat.ne_of_lt (Nat.lt_of_lt_of_le E39.lt (Nat.le_trans (Nat.le_refl _) g46))) nin0)).keep K219 (ninS (Nat.ne_of_lt (Nat.lt_of_lt_of_le E39.lt (Nat.le_trans (Nat.le_refl _) g46))) nin0)).keep K222 (ninS (Nat.ne_of_lt (Nat.lt_of_lt_of_le E39.lt (Nat.le_trans (Nat.le_refl _) g46))) nin0)).keep K225 (ninS (Nat.ne_of_lt (Nat.lt_of_lt_of_le E39.lt (Nat.le_trans (Nat.le_refl _) g46))) nin0)).keep K228 (ninS (Nat.ne_of_lt (Nat.lt_of_lt_of_le E39.lt (Nat.le_trans (Nat.le_refl _) g46))) nin0)).keep K231 (ninS (Nat.ne_of_lt (Nat.lt_of_lt_of_le E39.lt (Nat.le_trans (Nat.le_refl _) g46))) nin0)).keep K234 (ninS (Nat.ne_of_lt (Nat.lt_of_lt_of_le E39.lt (Nat.le_trans (Nat.le_refl _) g46))) nin0)).keep K237 (ninS (Nat.ne_of_lt (Nat.lt_of_lt_of_le E39.lt (Nat.le_trans (Nat.le_refl _) g46))) nin0)).keep K240 (ninS (Nat.ne_of_lt (Nat.lt_of_lt_of_le E39.lt (Nat.le_trans (Nat.le_refl _) g46))) nin0))
    have F244 := (((((((((((((((((((((((((((((((((((((((((((((((((((((((((((((((((F42.keep K45 nin0).keep K51 (ninS (Nat.ne_of_lt (Nat.lt_of_lt_of_le E39.lt (Nat.le_trans (Nat.le_refl _) g46))) nin0)).keep K54 (ninS (Nat.ne_of_lt (Nat.lt_of_lt_of_le E39.lt (Nat.le_trans (Nat.le_refl _) g46))) nin0)).keep K57 (ninS (Nat.ne_of_lt (Nat.lt_of_lt_of_le E39.lt (Nat.le_trans (Nat.le_refl _) g46))) nin0)).keep K60 (ninS (Nat.ne_of_lt (Nat.lt_of_lt_of_le E39.lt (Nat.le_trans (Nat.le_refl _) g46))) nin0)).keep K63 (ninS (Nat.ne_of_lt (Nat.lt_of_lt_of_le E39.lt (Nat.le_trans (Nat.le_refl _) g46))) nin0)).keep K66 (ninS (Nat.ne_of_lt (Nat.lt_of_lt_of_le E39.lt (Nat.le_trans (Nat.le_refl _) g46))) nin0)).keep K69 (ninS (Nat.ne_of_lt (Nat.lt_of_lt_of_le E39.lt (Nat.le_trans (Nat.le_refl _) g46))) nin0)).keep K72 (ninS (Nat.ne_of_lt (Nat.lt_of_lt_of_le E39.lt (Nat.le_trans (Nat.le_refl _) g46))) nin0)).keep K75 (ninS (Nat.ne_of_lt (Nat.lt_of_lt_of_le E39.lt (Nat.le_trans (Nat.le_refl _) g46))) nin0)).keep K78 (ninS (Nat.ne_of_lt (Nat.lt_of_lt_of_le E39.lt (Nat.le_trans (Nat.le_refl _) g46))) nin0)).keep K81 (ninS (Nat.ne_of_lt (Nat.lt_of_lt_of_le E39.lt (Nat.le_trans (Nat.le_refl _) g46))) nin0)).keep K84 (ninS (Nat.ne_of_lt (Nat.lt_of_lt_of_le E39.lt (Nat.le_trans (Nat.le_refl _) g46))) nin0)).keep K87 (ninS (Nat.ne_of_lt (Nat.lt_of_lt_of_le E39.lt (Nat.le_trans (Nat.le_refl _) g46))) nin0)).keep K90 (ninS (Nat.ne_of_lt (Nat.lt_of_lt_of_le E39.lt (Nat.le_trans (Nat.le_refl _) g46))) nin0)).keep K93 (ninS (Nat.ne_of_lt (Nat.lt_of_lt_of_le E39.lt (Nat.le_trans (Nat.le_refl _) g46))) nin0)).keep K96 (ninS (Nat.ne_of_lt (Nat.lt_of_lt_of_le E39.lt (Nat.le_trans (Nat.le_refl _) g46))) nin0)).keep K99 (ninS (Nat.ne_of_lt (Nat.lt_of_lt_of_le E39.lt (Nat.le_trans (Nat.le_refl _) g46))) nin0)).keep K102 (ninS (Nat.ne_of_lt (Nat.lt_of_lt_of_le E39.lt (Nat.le_trans (Nat.le_refl _) g46))) nin0)).keep K105 (ninS (Nat.ne_of_lt (Nat.lt_of_lt_of_le E39.lt (Nat.le_trans (Nat.le_refl _) g46))) nin0)).keep K108 (ninS (Nat.ne_of_lt (Nat.lt_of_lt_of_le E39.lt (Nat.le_trans (Nat.le_refl _) g46))) nin0)).keep K111 (ninS (Nat.ne_of_lt (Nat.lt_of_lt_of_le E39.lt (Nat.le_trans (Nat.le_refl _) g46))) nin0)).keep K114 (ninS (Nat.ne_of_lt (Nat.lt_of_lt_of_le E39.lt (Nat.le_trans (Nat.le_refl _) g46))) nin0)).keep K117 (ninS (Nat.ne_of_lt (Nat.lt_of_lt_of_le E39.lt (Nat.le_trans (Nat.le_refl _) g46))) nin0)).keep K120 (ninS (Nat.ne_of_lt (Nat.lt_of_lt_of_le E39.lt (Nat.le_trans (Nat.le_refl _) g46))) nin0)).keep K123 (ninS (Nat.ne_of_lt (Nat.lt_of_lt_of_le E39.lt (Nat.le_trans (Nat.le_refl _) g46))) nin0)).keep K126 (ninS (Nat.ne_of_lt (Nat.lt_of_lt_of_le E39.lt (Nat.le_trans (Nat.le_refl _) g46))) nin0)).keep K129 (ninS (Nat.ne_of_lt (Nat.lt_of_lt_of_le E39.lt (Nat.le_trans (Nat.le_refl _) g46))) nin0)).keep K132 (ninS (Nat.ne_of_lt (Nat.lt_of_lt_of_le E39.lt (Nat.le_trans (Nat.le_refl _) g46))) nin0)).keep K135 (ninS (Nat.ne_of_lt (Nat.lt_of_lt_of_le E39.lt (Nat.le_trans (Nat.le_refl _) g46))) nin0)).keep K138 (ninS (Nat.ne_of_lt (Nat.lt_of_lt_of_le E39.lt (Nat.le_trans (Nat.le_refl _) g46))) nin0)).keep K141 (ninS (Nat.ne_of_lt (Nat.lt_of_lt_of_le E39.lt (Nat.le_trans (Nat.le_refl _) g46))) nin0)).keep K144 (ninS (Nat.ne_of_lt (Nat.lt_of_lt_of_le E39.lt (Nat.le_trans (Nat.le_refl _) g46))) nin0)).keep K147 (ninS (Nat.ne_of_lt (Nat.lt_of_lt_of_le E39.lt (Nat.le_trans (Nat.le_refl _) g46))) nin0)).keep K150 (ninS (Nat.ne_of_lt (Nat.lt_of_lt_of_le E39.lt (Nat.le_trans (Nat.le_refl _) g46))) nin0)).keep K153 (ninS (Nat.ne_of_lt (Nat.lt_of_lt_of_le E39.lt (Nat.le_trans (Nat.le_refl _) g46))) nin0)).keep K156 (ninS (Nat.ne_of_lt (Nat.lt_of_lt_of_le E39.lt (Nat.le_trans (Nat.le_refl _) g46))) nin0)).keep K159 (ninS (Nat.ne_of_lt (Nat.lt_of_lt_of_le E39.lt (Nat.le_trans (Nat.le_refl _) g46))) nin0)).keep K162 (ninS (Nat.ne_of_lt (Nat.lt_of_lt_of_le E39.lt (Nat.le_trans (Nat.le_refl _) g46))) nin0)).keep K165 (ninS (Nat.ne_of_lt (Nat.lt_of_lt_of_le E39.lt (Nat.le_trans (Nat.le_refl _) g46))) nin0)).keep K168 (ninS (Nat.ne_of_lt (Nat.lt_of_lt_of_le E39.lt (Nat.le_trans (Nat.le_refl _) g46))) nin0)).keep K171 (ninS (Nat.ne_of_lt (Nat.lt_of_lt_of_le E39.lt (Nat.le_trans (Nat.le_refl _) g46))) nin0)).keep K174 (ninS (Nat.ne_of_lt (Nat.lt_of_lt_of_le E39.lt (Nat.le_trans (Nat.le_refl _) g46))) nin0)).keep K177 (ninS (Nat.ne_of_lt (Nat.lt_of_lt_of_le E39.lt (Nat.le_trans (Nat.le_refl _) g46))) nin0)).keep K180 (ninS (Nat.ne_of_lt (Nat.lt_of_lt_of_le E39.lt (Nat.le_trans (Nat.le_refl _) g46))) nin0)).keep K183 (ninS (Nat.ne_of_lt (Nat.lt_of_lt_of_le E39.lt (Nat.le_trans (Nat.le_refl _) g46))) nin0)).keep K186 (ninS (Nat.ne_of_lt (Nat.lt_of_lt_of_le E39.lt (Nat.le_trans (Nat.le_refl _) g46))) nin0)).keep K189 (ninS (Nat.ne_of_lt (Nat.lt_of_lt_of_le E39.lt (Nat.le_trans (Nat.le_refl _) g46))) nin0)).keep K192 (ninS (Nat.ne_of_lt (Nat.lt_of_lt_of_le E39.lt (Nat.le_trans (Nat.le_refl _) g46))) nin0)).keep K195 (ninS (Nat.ne_of_lt (Nat.lt_of_lt_of_le E39.lt (Nat.le_trans (Nat.le_refl _) g46))) nin0)).keep K198 (ninS (Nat.ne_of_lt (Nat.lt_of_lt_of_le E39.lt (Nat.le_trans (Nat.le_refl _) g46))) nin0)).keep K201 (ninS (Nat.ne_of_lt (Nat.lt_of_lt_of_le E39.lt (Nat.le_trans (Nat.le_refl _) g46))) nin0)).keep K204 (ninS (Nat.ne_of_lt (Nat.lt_of_lt_of_le E39.lt (Nat.le_trans (Nat.le_refl _) g46))) nin0)).keep K207 (ninS (Nat.ne_of_lt (Nat.lt_of_lt_of_le E39.lt (Nat.le_trans (Nat.le_refl _) g46))) nin0)).keep K210 (ninS (Nat.ne_of_lt (Nat.lt_of_lt_of_le E39.lt (Nat.le_trans (Nat.le_refl _) g46))) nin0)).keep K213 (ninS (Nat.ne_of_lt (Nat.lt_of_lt_of_le E39.lt (Nat.le_trans (Nat.le_refl _) g46))) nin0)).keep K216 (ninS (Nat.ne_of_lt (Nat.lt_of_lt_of_le E39.lt (Nat.le_trans (Nat.le_refl _) g46))) nin0)).keep K219 (ninS (Nat.ne_of_lt (Nat.lt_of_lt_of_le E39.lt (Nat.le_trans (Nat.le_refl _) g46))) nin0)).keep K222 (ninS (Nat.ne_of_lt (Nat.lt_of_lt_of_le E39.lt (Nat.le_trans (Nat.le_refl _) g46))) nin0)).keep K225 (ninS (Nat.ne_of_lt (Nat.lt_of_lt_of_le E39.lt (Nat.le_trans (Nat.le_refl _) g46))) nin0)).keep K228 (ninS (Nat.ne_of_lt (Nat.lt_of_lt_of_le E39.lt (Nat.le_trans (Nat.le_refl _) g46))) nin0)).keep K231 (ninS (Nat.ne_of_lt (Nat.lt_of_lt_of_le E39.lt (Nat.le_trans (Nat.le_refl _) g46))) nin0)).keep K234 (ninS (Nat.ne_of_lt (Nat.lt_of_lt_of_le E39.lt (Nat.le_trans (Nat.le_refl _) g46))) nin0)).keep K237 (ninS (Nat.ne_of_lt (Nat.lt_of_lt_of_le E39.lt (Nat.le_trans (Nat.le_refl _) g46))) nin0)).keep K240 (ninS (Nat.ne_of_lt (Nat.lt_of_lt_of_le E39.lt (Nat.le_trans (Nat.le_refl _) g46))) nin0))
    have en245 := X.en
    refine W.callN (pc' := 418) (W := 1) (argsL := [(.ref a44)]) (st := [(.ref a34)]) (k' := 11) (n' := 404) (a := a34) X (c_init1 (x := a34) (a := a44) (cs := [e6, e30, e30, e30, e30, e30, e30, e30, e30, e30, e30, e30, e30, e30, e30, e30, e30, e30, e30, e30, e30, e30, e30, e30, e30, e30, e30, e30, e30, e30, e30, e30, e14, e30, e30, e30, e30, e30, e30, e30, e30, e30, e30, e30, e30, e30, e30, e30, e30, e30, e30, e30, e30, e30, e30, e30, e30, e30, e30, e30, e30, e30, e30, e22]) (v0 := .null) (c0 := (.int (0 : Int32))) G X.en F242 F243 F244 A241 (latS (hexc_lat F8) (latS (hexc_lat F32) (latS (hexc_lat F32) (latS (hexc_lat F32) (latS (hexc_lat F32) (latS (hexc_lat F32) (latS (hexc_lat F32) (latS (hexc_lat F32) (latS (hexc_lat F32) (latS (hexc_lat F32) (latS (hexc_lat F32) (latS (hexc_lat F32) (latS (hexc_lat F32) (latS (hexc_lat F32) (latS (hexc_lat F32) (latS (hexc_lat F32) (latS (hexc_lat F32) (latS (hexc_lat F32) (latS (hexc_lat F32) (latS (hexc_lat F32) (latS (hexc_lat F32) (latS (hexc_lat F32) (latS (hexc_lat F32) (latS (hexc_lat F32) (latS (hexc_lat F32) (latS (hexc_lat F32) (latS (hexc_lat F32) (latS (hexc_lat F32) (latS (hexc_lat F32) (latS (hexc_lat F32) (latS (hexc_lat F32) (latS (hexc_lat F32) (latS (hexc_lat F16) (latS (hexc_lat F32) (latS (hexc_lat F32) (latS (hexc_lat F32) (latS (hexc_lat F32) (latS (hexc_lat F32) (latS (hexc_lat F32) (latS (hexc_lat F32) (latS (hexc_lat F32) (latS (hexc_lat F32) (latS (hexc_lat F32) (latS (hexc_lat F32) (latS (hexc_lat F32) (latS (hexc_lat F32) (latS (hexc_lat F32) (latS (hexc_lat F32) (latS (hexc_lat F32) (latS (hexc_lat F32) (latS (hexc_lat F32) (latS (hexc_lat F32) (latS (hexc_lat F32) (latS (hexc_lat F32) (latS (hexc_lat F32) (latS (hexc_lat F32) (latS (hexc_lat F32) (latS (hexc_lat F32) (latS (hexc_lat F32) (latS (hexc_lat F32) (latS (hexc_lat F32) (latS (hexc_lat F32) (latS (hexc_lat F32) (latS (hexc_lat F24) lat0)))))))))))))))))))))))))))))))))))))))))))))))))))))))))))))))) (ltb rfl) (leb rfl) g37 nb38) rfl (w52 G) (w53 G) (w54 G) (w18 G) (by decide) (by decide) (by decide) rfl (lenOf pd22 rfl) rfl rfl (Nat.le_of_eq rfl) d_m5_415 rfl (by decide) (by decide) (by decide) (by decide) (kv fun T h246 X z247 q248 => ?_)
    obtain ⟨a249, K250, g251, F252⟩ := q248
    have g253 : Z.heap.size ≤ a249 := Nat.le_trans (Nat.le_trans hz0 (Nat.le_trans (Nat.le_trans (Nat.le_trans (Nat.le_trans (Nat.le_trans (Nat.le_trans (Nat.le_trans (Nat.le_trans (Nat.le_trans (Nat.le_trans (Nat.le_trans (Nat.le_trans (Nat.le_trans (Nat.le_trans (Nat.le_trans (Nat.le_trans (Nat.le_trans (Nat.le_trans (Nat.le_trans (Nat.le_trans (Nat.le_trans (Nat.le_trans (Nat.le_trans (Nat.le_trans (Nat.le_trans (Nat.le_trans (Nat.le_trans (Nat.le_trans (Nat.le_trans (Nat.le_trans (Nat.le_trans (Nat.le_trans (Nat.le_trans (Nat.le_trans (Nat.le_trans (Nat.le_trans (Nat.le_trans (Nat.le_trans (Nat.le_trans (Nat.le_trans (Nat.le_trans (Nat.le_trans (Nat.le_trans (Nat.le_trans (Nat.le_trans (Nat.le_trans (Nat.le_trans (Nat.le_trans (Nat.le_trans (Nat.le_trans (Nat.le_trans (Nat.le_trans (Nat.le_trans (Nat.le_trans (Nat.le_trans (Nat.le_trans (Nat.le_trans (Nat.le_trans (Nat.le_trans (Nat.le_trans (Nat.le_trans (Nat.le_trans (Nat.le_trans (Nat.le_trans (Nat.le_trans (Nat.le_trans (Nat.le_trans (Nat.le_trans (Nat.le_trans K7.1 K15.1) K23.1) K31.1) K35.1) K45.1) K51.1) K54.1) K57.1) K60.1) K63.1) K66.1) K69.1) K72.1) K75.1) K78.1) K81.1) K84.1) K87.1) K90.1) K93.1) K96.1) K99.1) K102.1) K105.1) K108.1) K111.1) K114.1) K117.1) K120.1) K123.1) K126.1) K129.1) K132.1) K135.1) K138.1) K141.1) K144.1) K147.1) K150.1) K153.1) K156.1) K159.1) K162.1) K165.1) K168.1) K171.1) K174.1) K177.1) K180.1) K183.1) K186.1) K189.1) K192.1) K195.1) K198.1) K201.1) K204.1) K207.1) K210.1) K213.1) K216.1) K219.1) K222.1) K225.1) K228.1) K231.1) K234.1) K237.1) K240.1)) g251
    have nb254 : ¬ B28 a249 := fun q => absurd (en245.2 _ q) (Nat.not_lt.mpr g251)
    exact W.areturn X d_m5_418 rfl rfl rfl rfl (by decide) (by decide) ⟨_, rfl, ⟨a34, a249, rfl, (Keep.trans (Keep.trans (Keep.trans (Keep.trans (Keep.trans (Keep.trans (Keep.trans (Keep.trans (Keep.trans (Keep.trans (Keep.trans (Keep.trans (Keep.trans (Keep.trans (Keep.trans (Keep.trans (Keep.trans (Keep.trans (Keep.trans (Keep.trans (Keep.trans (Keep.trans (Keep.trans (Keep.trans (Keep.trans (Keep.trans (Keep.trans (Keep.trans (Keep.trans (Keep.trans (Keep.trans (Keep.trans (Keep.trans (Keep.trans (Keep.trans (Keep.trans (Keep.trans (Keep.trans (Keep.trans (Keep.trans (Keep.trans (Keep.trans (Keep.trans (Keep.trans (Keep.trans (Keep.trans (Keep.trans (Keep.trans (Keep.trans (Keep.trans (Keep.trans (Keep.trans (Keep.trans (Keep.trans (Keep.trans (Keep.trans (Keep.trans (Keep.trans (Keep.trans (Keep.trans (Keep.trans (Keep.trans (Keep.trans (Keep.trans (Keep.trans (Keep.trans (Keep.trans (Keep.trans (Keep.trans (Keep.trans (Keep.trans (Keep.refl h []) K7 all0) K15 all0) K23 all0) K31 all0) K35 all0) K45 all0) K51 (allS (Or.inr (Nat.le_trans (Nat.le_trans (Nat.le_trans (Nat.le_trans (Nat.le_trans K7.1 K15.1) K23.1) K31.1) K35.1) g46)) all0)) K54 (allS (Or.inr (Nat.le_trans (Nat.le_trans (Nat.le_trans (Nat.le_trans (Nat.le_trans K7.1 K15.1) K23.1) K31.1) K35.1) g46)) all0)) K57 (allS (Or.inr (Nat.le_trans (Nat.le_trans (Nat.le_trans (Nat.le_trans (Nat.le_trans K7.1 K15.1) K23.1) K31.1) K35.1) g46)) all0)) K60 (allS (Or.inr (Nat.le_trans (Nat.le_trans (Nat.le_trans (Nat.le_trans (Nat.le_trans K7.1 K15.1) K23.1) K31.1) K35.1) g46)) all0)) K63 (allS (Or.inr (Nat.le_trans (Nat.le_trans (Nat.le_trans (Nat.le_trans (Nat.le_trans K7.1 K15.1) K23.1) K31.1) K35.1) g46)) all0)) K66 (allS (Or.inr (Nat.le_trans (Nat.le_trans (Nat.le_trans (Nat.le_trans (Nat.le_trans K7.1 K15.1) K23.1) K31.1) K35.1) g46)) all0)) K69 (allS (Or.inr (Nat.le_trans (Nat.le_trans (Nat.le_trans (Nat.le_trans (Nat.le_trans K7.1 K15.1) K23.1) K31.1) K35.1) g46)) all0)) K72 (allS (Or.inr (Nat.le_trans (Nat.le_trans (Nat.le_trans (Nat.le_trans (Nat.le_trans K7.1 K15.1) K23.1) K31.1) K35.1) g46)) all0)) K75 (allS (Or.inr (Nat.le_trans (Nat.le_trans (Nat.le_trans (Nat.le_trans (Nat.le_trans K7.1 K15.1) K23.1) K31.1) K35.1) g46)) all0)) K78 (allS (Or.inr (Nat.le_trans (Nat.le_trans (Nat.le_trans (Nat.le_trans (Nat.le_trans K7.1 K15.1) K23.1) K31.1) K35.1) g46)) all0)) K81 (allS (Or.inr (Nat.le_trans (Nat.le_trans (Nat.le_trans (Nat.le_trans (Nat.le_trans K7.1 K15.1) K23.1) K31.1) K35.1) g46)) all0)) K84 (allS (Or.inr (Nat.le_trans (Nat.le_trans (Nat.le_trans (Nat.le_trans (Nat.le_trans K7.1 K15.1) K23.1) K31.1) K35.1) g46)) all0)) K87 (allS (Or.inr (Nat.le_trans (Nat.le_trans (Nat.le_trans (Nat.le_trans (Nat.le_trans K7.1 K15.1) K23.1) K31.1) K35.1) g46)) all0)) K90 (allS (Or.inr (Nat.le_trans (Nat.le_trans (Nat.le_trans (Nat.le_trans (Nat.le_trans K7.1 K15.1) K23.1) K31.1) K35.1) g46)) all0)) K93 (allS (Or.inr (Nat.le_trans (Nat.le_trans (Nat.le_trans (Nat.le_trans (Nat.le_trans K7.1 K15.1) K23.1) K31.1) K35.1) g46)) all0)) K96 (allS (Or.inr (Nat.le_trans (Nat.le_trans (Nat.le_trans (Nat.le_trans (Nat.le_trans K7.1 K15.1) K23.1) K31.1) K35.1) g46)) all0)) K99 (allS (Or.inr (Nat.le_trans (Nat.le_trans (Nat.le_trans (Nat.le_trans (Nat.le_trans K7.1 K15.1) K23.1) K31.1) K35.1) g46)) all0)) K102 (allS (Or.inr (Nat.le_trans (Nat.le_trans (Nat.le_trans (Nat.le_trans (Nat.le_trans K7.1 K15.1) K23.1) K31.1) K35.1) g46)) all0)) K105 (allS (Or.inr (Nat.le_trans (Nat.le_trans (Nat.le_trans (Nat.le_trans (Nat.le_trans K7.1 K15.1) K23.1) K31.1) K35.1) g46)) all0)) K108 (allS (Or.inr (Nat.le_trans (Nat.le_trans (Nat.le_trans (Nat.le_trans (Nat.le_trans K7.1 K15.1) K23.1) K31.1) K35.1) g46)) all0)) K111 (allS (Or.inr (Nat.le_trans (Nat.le_trans (Nat.le_trans (Nat.le_trans (Nat.le_trans K7.1 K15.1) K23.1) K31.1) K35.1) g46)) all0)) K114 (allS (Or.inr (Nat.le_trans (Nat.le_trans (Nat.le_trans (Nat.le_trans (Nat.le_trans K7.1 K15.1) K23.1) K31.1) K35.1) g46)) all0)) K117 (allS (Or.inr (Nat.le_trans (Nat.le_trans (Nat.le_trans (Nat.le_trans (Nat.le_trans K7.1 K15.1) K23.1) K31.1) K35.1) g46)) all0)) K120 (allS (Or.inr (Nat.le_trans (Nat.le_trans (Nat.le_trans (Nat.le_trans (Nat.le_trans K7.1 K15.1) K23.1) K31.1) K35.1) g46)) all0)) K123 (allS (Or.inr (Nat.le_trans (Nat.le_trans (Nat.le_trans (Nat.le_trans (Nat.le_trans K7.1 K15.1) K23.1) K31.1) K35.1) g46)) all0)) K126 (allS (Or.inr (Nat.le_trans (Nat.le_trans (Nat.le_trans (Nat.le_trans (Nat.le_trans K7.1 K15.1) K23.1) K31.1) K35.1) g46)) all0)) K129 (allS (Or.inr (Nat.le_trans (Nat.le_trans (Nat.le_trans (Nat.le_trans (Nat.le_trans K7.1 K15.1) K23.1) K31.1) K35.1) g46)) all0)) K132 (allS (Or.inr (Nat.le_trans (Nat.le_trans (Nat.le_trans (Nat.le_trans (Nat.le_trans K7.1 K15.1) K23.1) K31.1) K35.1) g46)) all0)) K135 (allS (Or.inr (Nat.le_trans (Nat.le_trans (Nat.le_trans (Nat.le_trans (Nat.le_trans K7.1 K15.1) K23.1) K31.1) K35.1) g46)) all0)) K138 (allS (Or.inr (Nat.le_trans (Nat.le_trans (Nat.le_trans (Nat.le_trans (Nat.le_trans K7.1 K15.1) K23.1) K31.1) K35.1) g46)) all0)) K141 (allS (Or.inr (Nat.le_trans (Nat.le_trans (Nat.le_trans (Nat.le_trans (Nat.le_trans K7.1 K15.1) K23.1) K31.1) K35.1) g46)) all0)) K144 (allS (Or.inr (Nat.le_trans (Nat.le_trans (Nat.le_trans (Nat.le_trans (Nat.le_trans K7.1 K15.1) K23.1) K31.1) K35.1) g46)) all0)) K147 (allS (Or.inr (Nat.le_trans (Nat.le_trans (Nat.le_trans (Nat.le_trans (Nat.le_trans K7.1 K15.1) K23.1) K31.1) K35.1) g46)) all0)) K150 (allS (Or.inr (Nat.le_trans (Nat.le_trans (Nat.le_trans (Nat.le_trans (Nat.le_trans K7.1 K15.1) K23.1) K31.1) K35.1) g46)) all0)) K153 (allS (Or.inr (Nat.le_trans (Nat.le_trans (Nat.le_trans (Nat.le_trans (Nat.le_trans K7.1 K15.1) K23.1) K31.1) K35.1) g46)) all0)) K156 (allS (Or.inr (Nat.le_trans (Nat.le_trans (Nat.le_trans (Nat.le_trans (Nat.le_trans K7.1 K15.1) K23.1) K31.1) K35.1) g46)) all0)) K159 (allS (Or.inr (Nat.le_trans (Nat.le_trans (Nat.le_trans (Nat.le_trans (Nat.le_trans K7.1 K15.1) K23.1) K31.1) K35.1) g46)) all0)) K162 (allS (Or.inr (Nat.le_trans (Nat.le_trans (Nat.le_trans (Nat.le_trans (Nat.le_trans K7.1 K15.1) K23.1) K31.1) K35.1) g46)) all0)) K165 (allS (Or.inr (Nat.le_trans (Nat.le_trans (Nat.le_trans (Nat.le_trans (Nat.le_trans K7.1 K15.1) K23.1) K31.1) K35.1) g46)) all0)) K168 (allS (Or.inr (Nat.le_trans (Nat.le_trans (Nat.le_trans (Nat.le_trans (Nat.le_trans K7.1 K15.1) K23.1) K31.1) K35.1) g46)) all0)) K171 (allS (Or.inr (Nat.le_trans (Nat.le_trans (Nat.le_trans (Nat.le_trans (Nat.le_trans K7.1 K15.1) K23.1) K31.1) K35.1) g46)) all0)) K174 (allS (Or.inr (Nat.le_trans (Nat.le_trans (Nat.le_trans (Nat.le_trans (Nat.le_trans K7.1 K15.1) K23.1) K31.1) K35.1) g46)) all0)) K177 (allS (Or.inr (Nat.le_trans (Nat.le_trans (Nat.le_trans (Nat.le_trans (Nat.le_trans K7.1 K15.1) K23.1) K31.1) K35.1) g46)) all0)) K180 (allS (Or.inr (Nat.le_trans (Nat.le_trans (Nat.le_trans (Nat.le_trans (Nat.le_trans K7.1 K15.1) K23.1) K31.1) K35.1) g46)) all0)) K183 (allS (Or.inr (Nat.le_trans (Nat.le_trans (Nat.le_trans (Nat.le_trans (Nat.le_trans K7.1 K15.1) K23.1) K31.1) K35.1) g46)) all0)) K186 (allS (Or.inr (Nat.le_trans (Nat.le_trans (Nat.le_trans (Nat.le_trans (Nat.le_trans K7.1 K15.1) K23.1) K31.1) K35.1) g46)) all0)) K189 (allS (Or.inr (Nat.le_trans (Nat.le_trans (Nat.le_trans (Nat.le_trans (Nat.le_trans K7.1 K15.1) K23.1) K31.1) K35.1) g46)) all0)) K192 (allS (Or.inr (Nat.le_trans (Nat.le_trans (Nat.le_trans (Nat.le_trans (Nat.le_trans K7.1 K15.1) K23.1) K31.1) K35.1) g46)) all0)) K195 (allS (Or.inr (Nat.le_trans (Nat.le_trans (Nat.le_trans (Nat.le_trans (Nat.le_trans K7.1 K15.1) K23.1) K31.1) K35.1) g46)) all0)) K198 (allS (Or.inr (Nat.le_trans (Nat.le_trans (Nat.le_trans (Nat.le_trans (Nat.le_trans K7.1 K15.1) K23.1) K31.1) K35.1) g46)) all0)) K201 (allS (Or.inr (Nat.le_trans (Nat.le_trans (Nat.le_trans (Nat.le_trans (Nat.le_trans K7.1 K15.1) K23.1) K31.1) K35.1) g46)) all0)) K204 (allS (Or.inr (Nat.le_trans (Nat.le_trans (Nat.le_trans (Nat.le_trans (Nat.le_trans K7.1 K15.1) K23.1) K31.1) K35.1) g46)) all0)) K207 (allS (Or.inr (Nat.le_trans (Nat.le_trans (Nat.le_trans (Nat.le_trans (Nat.le_trans K7.1 K15.1) K23.1) K31.1) K35.1) g46)) all0)) K210 (allS (Or.inr (Nat.le_trans (Nat.le_trans (Nat.le_trans (Nat.le_trans (Nat.le_trans K7.1 K15.1) K23.1) K31.1) K35.1) g46)) all0)) K213 (allS (Or.inr (Nat.le_trans (Nat.le_trans (Nat.le_trans (Nat.le_trans (Nat.le_trans K7.1 K15.1) K23.1) K31.1) K35.1) g46)) all0)) K216 (allS (Or.inr (Nat.le_trans (Nat.le_trans (Nat.le_trans (Nat.le_trans (Nat.le_trans K7.1 K15.1) K23.1) K31.1) K35.1) g46)) all0)) K219 (allS (Or.inr (Nat.le_trans (Nat.le_trans (Nat.le_trans (Nat.le_trans (Nat.le_trans K7.1 K15.1) K23.1) K31.1) K35.1) g46)) all0)) K222 (allS (Or.inr (Nat.le_trans (Nat.le_trans (Nat.le_trans (Nat.le_trans (Nat.le_trans K7.1 K15.1) K23.1) K31.1) K35.1) g46)) all0)) K225 (allS (Or.inr (Nat.le_trans (Nat.le_trans (Nat.le_trans (Nat.le_trans (Nat.le_trans K7.1 K15.1) K23.1) K31.1) K35.1) g46)) all0)) K228 (allS (Or.inr (Nat.le_trans (Nat.le_trans (Nat.le_trans (Nat.le_trans (Nat.le_trans K7.1 K15.1) K23.1) K31.1) K35.1) g46)) all0)) K231 (allS (Or.inr (Nat.le_trans (Nat.le_trans (Nat.le_trans (Nat.le_trans (Nat.le_trans K7.1 K15.1) K23.1) K31.1) K35.1) g46)) all0)) K234 (allS (Or.inr (Nat.le_trans (Nat.le_trans (Nat.le_trans (Nat.le_trans (Nat.le_trans K7.1 K15.1) K23.1) K31.1) K35.1) g46)) all0)) K237 (allS (Or.inr (Nat.le_trans (Nat.le_trans (Nat.le_trans (Nat.le_trans (Nat.le_trans K7.1 K15.1) K23.1) K31.1) K35.1) g46)) all0)) K240 (allS (Or.inr (Nat.le_trans (Nat.le_trans (Nat.le_trans (Nat.le_trans (Nat.le_trans K7.1 K15.1) K23.1) K31.1) K35.1) g46)) all0)) K250 (allS (Or.inr (Nat.le_trans (Nat.le_trans (Nat.le_trans (Nat.le_trans K7.1 K15.1) K23.1) K31.1) g36)) all0)), (Nat.le_trans (Nat.le_trans (Nat.le_trans (Nat.le_trans K7.1 K15.1) K23.1) K31.1) g36), (Nat.le_trans (Nat.le_trans (Nat.le_trans (Nat.le_trans (Nat.le_trans (Nat.le_trans (Nat.le_trans (Nat.le_trans (Nat.le_trans (Nat.le_trans (Nat.le_trans (Nat.le_trans (Nat.le_trans (Nat.le_trans (Nat.le_trans (Nat.le_trans (Nat.le_trans (Nat.le_trans (Nat.le_trans (Nat.le_trans (Nat.le_trans (Nat.le_trans (Nat.le_trans (Nat.le_trans (Nat.le_trans (Nat.le_trans (Nat.le_trans (Nat.le_trans (Nat.le_trans (Nat.le_trans (Nat.le_trans (Nat.le_trans (Nat.le_trans (Nat.le_trans (Nat.le_trans (Nat.le_trans (Nat.le_trans (Nat.le_trans (Nat.le_trans (Nat.le_trans (Nat.le_trans (Nat.le_trans (Nat.le_trans (Nat.le_trans (Nat.le_trans (Nat.le_trans (Nat.le_trans (Nat.le_trans (Nat.le_trans (Nat.le_trans (Nat.le_trans (Nat.le_trans (Nat.le_trans (Nat.le_trans (Nat.le_trans (Nat.le_trans (Nat.le_trans (Nat.le_trans (Nat.le_trans (Nat.le_trans (Nat.le_trans (Nat.le_trans (Nat.le_trans (Nat.le_trans (Nat.le_trans (Nat.le_trans (Nat.le_trans (Nat.le_trans (Nat.le_trans (Nat.le_trans K7.1 K15.1) K23.1) K31.1) K35.1) K45.1) K51.1) K54.1) K57.1) K60.1) K63.1) K66.1) K69.1) K72.1) K75.1) K78.1) K81.1) K84.1) K87.1) K90.1) K93.1) K96.1) K99.1) K102.1) K105.1) K108.1) K111.1) K114.1) K117.1) K120.1) K123.1) K126.1) K129.1) K132.1) K135.1) K138.1) K141.1) K144.1) K147.1) K150.1) K153.1) K156.1) K159.1) K162.1) K165.1) K168.1) K171.1) K174.1) K177.1) K180.1) K183.1) K186.1) K189.1) K192.1) K195.1) K198.1) K201.1) K204.1) K207.1) K210.1) K213.1) K216.1) K219.1) K222.1) K225.1) K228.1) K231.1) K234.1) K237.1) K240.1) g251), (strc F252 (by rw [F8, F16, F24, F32, sigL, if_pos hi0]; rfl))⟩⟩
  · skip
    refine W.ifT (pc' := 419) X d_m5_26 (XT.i0_ne_t hi0) (by decide) (by decide) ?_
    refine W.iloadN (pc' := 420) X d_m5_419 rfl rfl ?_
    refine W.iconst (pc' := 421) X (1 : Int32) d_m5_420 (by decide) rfl ?_
    by_cases hi1 : i = (1 : Int32)
    · skip
      refine W.icF (pc' := 424) X d_m5_421 (XT.ii_ne_f hi1) rfl ?_
      refine W.new (pc' := 427) (k' := 9) (n' := 276) X (w50 G) (w19 G) (w18 G) d_m5_424 rfl (by decide) (by decide) (by decide) (by decide) fun T h255 a256 X K257 g258 g259 nb260 E261 D262 => ?_
      have F263 : Fld Z h255 a256 "java/lang/String" "value" "[B" .null := D262 (Or.inr (w21 G)) (ty := (.array .byte)) (by decide)
      have F264 : Fld Z h255 a256 "java/lang/String" "coder" "B" (.int (0 : Int32)) := D262 (Or.inr (w22 G)) (ty := .byte) (by decide)
      refine W.dup (pc' := 428) X d_m5_427 rfl rfl ?_
      refine W.bipush (pc' := 430) X (40 : Int32) d_m5_428 (by decide) rfl ?_
      refine W.newA (aty := .char) (pc' := 432) (k' := 10) (n' := 316) (cap := 40) X (w51 G) d_m5_430 (by decide) (by decide) (by decide) rfl (by decide) (by decide) (by decide) (by decide) fun T h265 a266 X K267 g268 g269 nb270 A271 => ?_
      have A271 : Ar Z h265 a266 .char [(.int (0 : Int32)), (.int (0 : Int32)), (.int (0 : Int32)), (.int (0 : Int32)), (.int (0 : Int32)), (.int (0 : Int32)), (.int (0 : Int32)), (.int (0 : Int32)), (.int (0 : Int32)), (.int (0 : Int32)), (.int (0 : Int32)), (.int (0 : Int32)), (.int (0 : Int32)), (.int (0 : Int32)), (.int (0 : Int32)), (.int (0 : Int32)), (.int (0 : Int32)), (.int (0 : Int32)), (.int (0 : Int32)), (.int (0 : Int32)), (.int (0 : Int32)), (.int (0 : Int32)), (.int (0 : Int32)), (.int (0 : Int32)), (.int (0 : Int32)), (.int (0 : Int32)), (.int (0 : Int32)), (.int (0 : Int32)), (.int (0 : Int32)), (.int (0 : Int32)), (.int (0 : Int32)), (.int (0 : Int32)), (.int (0 : Int32)), (.int (0 : Int32)), (.int (0 : Int32)), (.int (0 : Int32)), (.int (0 : Int32)), (.int (0 : Int32)), (.int (0 : Int32)), (.int (0 : Int32))] := A271
      refine W.dup (pc' := 433) X d_m5_432 rfl rfl ?_
      refine W.iconst (pc' := 434) X (0 : Int32) d_m5_433 (by decide) rfl ?_
      refine W.iload (pc' := 436) X d_m5_434 rfl rfl ?_
      refine W.castore (pc' := 437) (i := 0) X A271 (by decide) rfl (ltb rfl) (hexc_nar F8) g269 nb270 d_m5_436 rfl fun T h272 X K273 A274 => ?_
      have A274 : Ar Z h272 a266 .char [(.int e6), (.int (0 : Int32)), (.int (0 : Int32)), (.int (0 : Int32)), (.int (0 : Int32)), (.int (0 : Int32)), (.int (0 : Int32)), (.int (0 : Int32)), (.int (0 : Int32)), (.int (0 : Int32)), (.int (0 : Int32)), (.int (0 : Int32)), (.int (0 : Int32)), (.int (0 : Int32)), (.int (0 : Int32)), (.int (0 : Int32)), (.int (0 : Int32)), (.int (0 : Int32)), (.int (0 : Int32)), (.int (0 : Int32)), (.int (0 : Int32)), (.int (0 : Int32)), (.int (0 : Int32)), (.int (0 : Int32)), (.int (0 : Int32)), (.int (0 : Int32)), (.int (0 : Int32)), (.int (0 : Int32)), (.int (0 : Int32)), (.int (0 : Int32)), (.int (0 : Int32)), (.int (0 : Int32)), (.int (0 : Int32)), (.int (0 : Int32)), (.int (0 : Int32)), (.int (0 : Int32)), (.int (0 : Int32)), (.int (0 : Int32)), (.int (0 : Int32)), (.int (0 : Int32))] := A274
      refine W.dup (pc' := 438) X d_m5_437 rfl rfl ?_
      refine W.iconst (pc' := 439) X (1 : Int32) d_m5_438 (by decide) rfl ?_
      refine W.iload (pc' := 441) X d_m5_439 rfl rfl ?_
      refine W.castore (pc' := 442) (i := 1) X A274 (by decide) rfl (ltb rfl) (hexc_nar F32) g269 nb270 d_m5_441 rfl fun T h275 X K276 A277 => ?_
      have A277 : Ar Z h275 a266 .char [(.int e6), (.int e30), (.int (0 : Int32)), (.int (0 : Int32)), (.int (0 : Int32)), (.int (0 : Int32)), (.int (0 : Int32)), (.int (0 : Int32)), (.int (0 : Int32)), (.int (0 : Int32)), (.int (0 : Int32)), (.int (0 : Int32)), (.int (0 : Int32)), (.int (0 : Int32)), (.int (0 : Int32)), (.int (0 : Int32)), (.int (0 : Int32)), (.int (0 : Int32)), (.int (0 : Int32)), (.int (0 : Int32)), (.int (0 : Int32)), (.int (0 : Int32)), (.int (0 : Int32)), (.int (0 : Int32)), (.int (0 : Int32)), (.int (0 : Int32)), (.int (0 : Int32)), (.int (0 : Int32)), (.int (0 : Int32)), (.int (0 : Int32)), (.int (0 : Int32)), (.int (0 : Int32)), (.int (0 : Int32)), (.int (0 : Int32)), (.int (0 : Int32)), (.int (0 : Int32)), (.int (0 : Int32)), (.int (0 : Int32)), (.int (0 : Int32)), (.int (0 : Int32))] := A277
      refine W.dup (pc' := 443) X d_m5_442 rfl rfl ?_
      refine W.iconst (pc' := 444) X (2 : Int32) d_m5_443 (by decide) rfl ?_
      refine W.iload (pc' := 446) X d_m5_444 rfl rfl ?_
      refine W.castore (pc' := 447) (i := 2) X A277 (by decide) rfl (ltb rfl) (hexc_nar F32) g269 nb270 d_m5_446 rfl fun T h278 X K279 A280 => ?_
      have A280 : Ar Z h278 a266 .char [(.int e6), (.int e30), (.int e30), (.int (0 : Int32)), (.int (0 : Int32)), (.int (0 : Int32)), (.int (0 : Int32)), (.int (0 : Int32)), (.int (0 : Int32)), (.int (0 : Int32)), (.int (0 : Int32)), (.int (0 : Int32)), (.int (0 : Int32)), (.int (0 : Int32)), (.int (0 : Int32)), (.int (0 : Int32)), (.int (0 : Int32)), (.int (0 : Int32)), (.int (0 : Int32)), (.int (0 : Int32)), (.int (0 : Int32)), (.int (0 : Int32)), (.int (0 : Int32)), (.int (0 : Int32)), (.int (0 : Int32)), (.int (0 : Int32)), (.int (0 : Int32)), (.int (0 : Int32)), (.int (0 : Int32)), (.int (0 : Int32)), (.int (0 : Int32)), (.int (0 : Int32)), (.int (0 : Int32)), (.int (0 : Int32)), (.int (0 : Int32)), (.int (0 : Int32)), (.int (0 : Int32)), (.int (0 : Int32)), (.int (0 : Int32)), (.int (0 : Int32))] := A280
      refine W.dup (pc' := 448) X d_m5_447 rfl rfl ?_
      refine W.iconst (pc' := 449) X (3 : Int32) d_m5_448 (by decide) rfl ?_
      refine W.iload (pc' := 451) X d_m5_449 rfl rfl ?_
      refine W.castore (pc' := 452) (i := 3) X A280 (by decide) rfl (ltb rfl) (hexc_nar F32) g269 nb270 d_m5_451 rfl fun T h281 X K282 A283 => ?_
      have A283 : Ar Z h281 a266 .char [(.int e6), (.int e30), (.int e30), (.int e30), (.int (0 : Int32)), (.int (0 : Int32)), (.int (0 : Int32)), (.int (0 : Int32)), (.int (0 : Int32)), (.int (0 : Int32)), (.int (0 : Int32)), (.int (0 : Int32)), (.int (0 : Int32)), (.int (0 : Int32)), (.int (0 : Int32)), (.int (0 : Int32)), (.int (0 : Int32)), (.int (0 : Int32)), (.int (0 : Int32)), (.int (0 : Int32)), (.int (0 : Int32)), (.int (0 : Int32)), (.int (0 : Int32)), (.int (0 : Int32)), (.int (0 : Int32)), (.int (0 : Int32)), (.int (0 : Int32)), (.int (0 : Int32)), (.int (0 : Int32)), (.int (0 : Int32)), (.int (0 : Int32)), (.int (0 : Int32)), (.int (0 : Int32)), (.int (0 : Int32)), (.int (0 : Int32)), (.int (0 : Int32)), (.int (0 : Int32)), (.int (0 : Int32)), (.int (0 : Int32)), (.int (0 : Int32))] := A283
      refine W.dup (pc' := 453) X d_m5_452 rfl rfl ?_
      refine W.iconst (pc' := 454) X (4 : Int32) d_m5_453 (by decide) rfl ?_
      refine W.iload (pc' := 456) X d_m5_454 rfl rfl ?_
      refine W.castore (pc' := 457) (i := 4) X A283 (by decide) rfl (ltb rfl) (hexc_nar F32) g269 nb270 d_m5_456 rfl fun T h284 X K285 A286 => ?_
      have A286 : Ar Z h284 a266 .char [(.int e6), (.int e30), (.int e30), (.int e30), (.int e30), (.int (0 : Int32)), (.int (0 : Int32)), (.int (0 : Int32)), (.int (0 : Int32)), (.int (0 : Int32)), (.int (0 : Int32)), (.int (0 : Int32)), (.int (0 : Int32)), (.int (0 : Int32)), (.int (0 : Int32)), (.int (0 : Int32)), (.int (0 : Int32)), (.int (0 : Int32)), (.int (0 : Int32)), (.int (0 : Int32)), (.int (0 : Int32)), (.int (0 : Int32)), (.int (0 : Int32)), (.int (0 : Int32)), (.int (0 : Int32)), (.int (0 : Int32)), (.int (0 : Int32)), (.int (0 : Int32)), (.int (0 : Int32)), (.int (0 : Int32)), (.int (0 : Int32)), (.int (0 : Int32)), (.int (0 : Int32)), (.int (0 : Int32)), (.int (0 : Int32)), (.int (0 : Int32)), (.int (0 : Int32)), (.int (0 : Int32)), (.int (0 : Int32)), (.int (0 : Int32))] := A286
      refine W.dup (pc' := 458) X d_m5_457 rfl rfl ?_
      refine W.iconst (pc' := 459) X (5 : Int32) d_m5_458 (by decide) rfl ?_
      refine W.iload (pc' := 461) X d_m5_459 rfl rfl ?_
      refine W.castore (pc' := 462) (i := 5) X A286 (by decide) rfl (ltb rfl) (hexc_nar F32) g269 nb270 d_m5_461 rfl fun T h287 X K288 A289 => ?_
      have A289 : Ar Z h287 a266 .char [(.int e6), (.int e30), (.int e30), (.int e30), (.int e30), (.int e30), (.int (0 : Int32)), (.int (0 : Int32)), (.int (0 : Int32)), (.int (0 : Int32)), (.int (0 : Int32)), (.int (0 : Int32)), (.int (0 : Int32)), (.int (0 : Int32)), (.int (0 : Int32)), (.int (0 : Int32)), (.int (0 : Int32)), (.int (0 : Int32)), (.int (0 : Int32)), (.int (0 : Int32)), (.int (0 : Int32)), (.int (0 : Int32)), (.int (0 : Int32)), (.int (0 : Int32)), (.int (0 : Int32)), (.int (0 : Int32)), (.int (0 : Int32)), (.int (0 : Int32)), (.int (0 : Int32)), (.int (0 : Int32)), (.int (0 : Int32)), (.int (0 : Int32)), (.int (0 : Int32)), (.int (0 : Int32)), (.int (0 : Int32)), (.int (0 : Int32)), (.int (0 : Int32)), (.int (0 : Int32)), (.int (0 : Int32)), (.int (0 : Int32))] := A289
      refine W.dup (pc' := 463) X d_m5_462 rfl rfl ?_
      refine W.bipush (pc' := 465) X (6 : Int32) d_m5_463 (by decide) rfl ?_
      refine W.iload (pc' := 467) X d_m5_465 rfl rfl ?_
      refine W.castore (pc' := 468) (i := 6) X A289 (by decide) rfl (ltb rfl) (hexc_nar F32) g269 nb270 d_m5_467 rfl fun T h290 X K291 A292 => ?_
      have A292 : Ar Z h290 a266 .char [(.int e6), (.int e30), (.int e30), (.int e30), (.int e30), (.int e30), (.int e30), (.int (0 : Int32)), (.int (0 : Int32)), (.int (0 : Int32)), (.int (0 : Int32)), (.int (0 : Int32)), (.int (0 : Int32)), (.int (0 : Int32)), (.int (0 : Int32)), (.int (0 : Int32)), (.int (0 : Int32)), (.int (0 : Int32)), (.int (0 : Int32)), (.int (0 : Int32)), (.int (0 : Int32)), (.int (0 : Int32)), (.int (0 : Int32)), (.int (0 : Int32)), (.int (0 : Int32)), (.int (0 : Int32)), (.int (0 : Int32)), (.int (0 : Int32)), (.int (0 : Int32)), (.int (0 : Int32)), (.int (0 : Int32)), (.int (0 : Int32)), (.int (0 : Int32)), (.int (0 : Int32)), (.int (0 : Int32)), (.int (0 : Int32)), (.int (0 : Int32)), (.int (0 : Int32)), (.int (0 : Int32)), (.int (0 : Int32))] := A292
      refine W.dup (pc' := 469) X d_m5_468 rfl rfl ?_
      refine W.bipush (pc' := 471) X (7 : Int32) d_m5_469 (by decide) rfl ?_
      refine W.iload (pc' := 473) X d_m5_471 rfl rfl ?_
      refine W.castore (pc' := 474) (i := 7) X A292 (by decide) rfl (ltb rfl) (hexc_nar F32) g269 nb270 d_m5_473 rfl fun T h293 X K294 A295 => ?_
      have A295 : Ar Z h293 a266 .char [(.int e6), (.int e30), (.int e30), (.int e30), (.int e30), (.int e30), (.int e30), (.int e30), (.int (0 : Int32)), (.int (0 : Int32)), (.int (0 : Int32)), (.int (0 : Int32)), (.int (0 : Int32)), (.int (0 : Int32)), (.int (0 : Int32)), (.int (0 : Int32)), (.int (0 : Int32)), (.int (0 : Int32)), (.int (0 : Int32)), (.int (0 : Int32)), (.int (0 : Int32)), (.int (0 : Int32)), (.int (0 : Int32)), (.int (0 : Int32)), (.int (0 : Int32)), (.int (0 : Int32)), (.int (0 : Int32)), (.int (0 : Int32)), (.int (0 : Int32)), (.int (0 : Int32)), (.int (0 : Int32)), (.int (0 : Int32)), (.int (0 : Int32)), (.int (0 : Int32)), (.int (0 : Int32)), (.int (0 : Int32)), (.int (0 : Int32)), (.int (0 : Int32)), (.int (0 : Int32)), (.int (0 : Int32))] := A295
      refine W.dup (pc' := 475) X d_m5_474 rfl rfl ?_
      refine W.bipush (pc' := 477) X (8 : Int32) d_m5_475 (by decide) rfl ?_
      refine W.iload (pc' := 479) X d_m5_477 rfl rfl ?_
      refine W.castore (pc' := 480) (i := 8) X A295 (by decide) rfl (ltb rfl) (hexc_nar F32) g269 nb270 d_m5_479 rfl fun T h296 X K297 A298 => ?_
      have A298 : Ar Z h296 a266 .char [(.int e6), (.int e30), (.int e30), (.int e30), (.int e30), (.int e30), (.int e30), (.int e30), (.int e30), (.int (0 : Int32)), (.int (0 : Int32)), (.int (0 : Int32)), (.int (0 : Int32)), (.int (0 : Int32)), (.int (0 : Int32)), (.int (0 : Int32)), (.int (0 : Int32)), (.int (0 : Int32)), (.int (0 : Int32)), (.int (0 : Int32)), (.int (0 : Int32)), (.int (0 : Int32)), (.int (0 : Int32)), (.int (0 : Int32)), (.int (0 : Int32)), (.int (0 : Int32)), (.int (0 : Int32)), (.int (0 : Int32)), (.int (0 : Int32)), (.int (0 : Int32)), (.int (0 : Int32)), (.int (0 : Int32)), (.int (0 : Int32)), (.int (0 : Int32)), (.int (0 : Int32)), (.int (0 : Int32)), (.int (0 : Int32)), (.int (0 : Int32)), (.int (0 : Int32)), (.int (0 : Int32))] := A298
      refine W.dup (pc' := 481) X d_m5_480 rfl rfl ?_
      refine W.bipush (pc' := 483) X (9 : Int32) d_m5_481 (by decide) rfl ?_
      refine W.iload (pc' := 485) X d_m5_483 rfl rfl ?_
      refine W.castore (pc' := 486) (i := 9) X A298 (by decide) rfl (ltb rfl) (hexc_nar F32) g269 nb270 d_m5_485 rfl fun T h299 X K300 A301 => ?_
      have A301 : Ar Z h299 a266 .char [(.int e6), (.int e30), (.int e30), (.int e30), (.int e30), (.int e30), (.int e30), (.int e30), (.int e30), (.int e30), (.int (0 : Int32)), (.int (0 : Int32)), (.int (0 : Int32)), (.int (0 : Int32)), (.int (0 : Int32)), (.int (0 : Int32)), (.int (0 : Int32)), (.int (0 : Int32)), (.int (0 : Int32)), (.int (0 : Int32)), (.int (0 : Int32)), (.int (0 : Int32)), (.int (0 : Int32)), (.int (0 : Int32)), (.int (0 : Int32)), (.int (0 : Int32)), (.int (0 : Int32)), (.int (0 : Int32)), (.int (0 : Int32)), (.int (0 : Int32)), (.int (0 : Int32)), (.int (0 : Int32)), (.int (0 : Int32)), (.int (0 : Int32)), (.int (0 : Int32)), (.int (0 : Int32)), (.int (0 : Int32)), (.int (0 : Int32)), (.int (0 : Int32)), (.int (0 : Int32))] := A301
      refine W.dup (pc' := 487) X d_m5_486 rfl rfl ?_
      refine W.bipush (pc' := 489) X (10 : Int32) d_m5_487 (by decide) rfl ?_
      refine W.iload (pc' := 491) X d_m5_489 rfl rfl ?_
      refine W.castore (pc' := 492) (i := 10) X A301 (by decide) rfl (ltb rfl) (hexc_nar F32) g269 nb270 d_m5_491 rfl fun T h302 X K303 A304 => ?_
      have A304 : Ar Z h302 a266 .char [(.int e6), (.int e30), (.int e30), (.int e30), (.int e30), (.int e30), (.int e30), (.int e30), (.int e30), (.int e30), (.int e30), (.int (0 : Int32)), (.int (0 : Int32)), (.int (0 : Int32)), (.int (0 : Int32)), (.int (0 : Int32)), (.int (0 : Int32)), (.int (0 : Int32)), (.int (0 : Int32)), (.int (0 : Int32)), (.int (0 : Int32)), (.int (0 : Int32)), (.int (0 : Int32)), (.int (0 : Int32)), (.int (0 : Int32)), (.int (0 : Int32)), (.int (0 : Int32)), (.int (0 : Int32)), (.int (0 : Int32)), (.int (0 : Int32)), (.int (0 : Int32)), (.int (0 : Int32)), (.int (0 : Int32)), (.int (0 : Int32)), (.int (0 : Int32)), (.int (0 : Int32)), (.int (0 : Int32)), (.int (0 : Int32)), (.int (0 : Int32)), (.int (0 : Int32))] := A304
      refine W.dup (pc' := 493) X d_m5_492 rfl rfl ?_
      refine W.bipush (pc' := 495) X (11 : Int32) d_m5_493 (by decide) rfl ?_
      refine W.iload (pc' := 497) X d_m5_495 rfl rfl ?_
      refine W.castore (pc' := 498) (i := 11) X A304 (by decide) rfl (ltb rfl) (hexc_nar F32) g269 nb270 d_m5_497 rfl fun T h305 X K306 A307 => ?_
      have A307 : Ar Z h305 a266 .char [(.int e6), (.int e30), (.int e30), (.int e30), (.int e30), (.int e30), (.int e30), (.int e30), (.int e30), (.int e30), (.int e30), (.int e30), (.int (0 : Int32)), (.int (0 : Int32)), (.int (0 : Int32)), (.int (0 : Int32)), (.int (0 : Int32)), (.int (0 : Int32)), (.int (0 : Int32)), (.int (0 : Int32)), (.int (0 : Int32)), (.int (0 : Int32)), (.int (0 : Int32)), (.int (0 : Int32)), (.int (0 : Int32)), (.int (0 : Int32)), (.int (0 : Int32)), (.int (0 : Int32)), (.int (0 : Int32)), (.int (0 : Int32)), (.int (0 : Int32)), (.int (0 : Int32)), (.int (0 : Int32)), (.int (0 : Int32)), (.int (0 : Int32)), (.int (0 : Int32)), (.int (0 : Int32)), (.int (0 : Int32)), (.int (0 : Int32)), (.int (0 : Int32))] := A307
      refine W.dup (pc' := 499) X d_m5_498 rfl rfl ?_
      refine W.bipush (pc' := 501) X (12 : Int32) d_m5_499 (by decide) rfl ?_
      refine W.iload (pc' := 503) X d_m5_501 rfl rfl ?_
      refine W.castore (pc' := 504) (i := 12) X A307 (by decide) rfl (ltb rfl) (hexc_nar F32) g269 nb270 d_m5_503 rfl fun T h308 X K309 A310 => ?_
      have A310 : Ar Z h308 a266 .char [(.int e6), (.int e30), (.int e30), (.int e30), (.int e30), (.int e30), (.int e30), (.int e30), (.int e30), (.int e30), (.int e30), (.int e30), (.int e30), (.int (0 : Int32)), (.int (0 : Int32)), (.int (0 : Int32)), (.int (0 : Int32)), (.int (0 : Int32)), (.int (0 : Int32)), (.int (0 : Int32)), (.int (0 : Int32)), (.int (0 : Int32)), (.int (0 : Int32)), (.int (0 : Int32)), (.int (0 : Int32)), (.int (0 : Int32)), (.int (0 : Int32)), (.int (0 : Int32)), (.int (0 : Int32)), (.int (0 : Int32)), (.int (0 : Int32)), (.int (0 : Int32)), (.int (0 : Int32)), (.int (0 : Int32)), (.int (0 : Int32)), (.int (0 : Int32)), (.int (0 : Int32)), (.int (0 : Int32)), (.int (0 : Int32)), (.int (0 : Int32))] := A310
      refine W.dup (pc' := 505) X d_m5_504 rfl rfl ?_
      refine W.bipush (pc' := 507) X (13 : Int32) d_m5_505 (by decide) rfl ?_
      refine W.iload (pc' := 509) X d_m5_507 rfl rfl ?_
      refine W.castore (pc' := 510) (i := 13) X A310 (by decide) rfl (ltb rfl) (hexc_nar F32) g269 nb270 d_m5_509 rfl fun T h311 X K312 A313 => ?_
      have A313 : Ar Z h311 a266 .char [(.int e6), (.int e30), (.int e30), (.int e30), (.int e30), (.int e30), (.int e30), (.int e30), (.int e30), (.int e30), (.int e30), (.int e30), (.int e30), (.int e30), (.int (0 : Int32)), (.int (0 : Int32)), (.int (0 : Int32)), (.int (0 : Int32)), (.int (0 : Int32)), (.int (0 : Int32)), (.int (0 : Int32)), (.int (0 : Int32)), (.int (0 : Int32)), (.int (0 : Int32)), (.int (0 : Int32)), (.int (0 : Int32)), (.int (0 : Int32)), (.int (0 : Int32)), (.int (0 : Int32)), (.int (0 : Int32)), (.int (0 : Int32)), (.int (0 : Int32)), (.int (0 : Int32)), (.int (0 : Int32)), (.int (0 : Int32)), (.int (0 : Int32)), (.int (0 : Int32)), (.int (0 : Int32)), (.int (0 : Int32)), (.int (0 : Int32))] := A313
      refine W.dup (pc' := 511) X d_m5_510 rfl rfl ?_
      refine W.bipush (pc' := 513) X (14 : Int32) d_m5_511 (by decide) rfl ?_
      refine W.iload (pc' := 515) X d_m5_513 rfl rfl ?_
      refine W.castore (pc' := 516) (i := 14) X A313 (by decide) rfl (ltb rfl) (hexc_nar F32) g269 nb270 d_m5_515 rfl fun T h314 X K315 A316 => ?_
      have A316 : Ar Z h314 a266 .char [(.int e6), (.int e30), (.int e30), (.int e30), (.int e30), (.int e30), (.int e30), (.int e30), (.int e30), (.int e30), (.int e30), (.int e30), (.int e30), (.int e30), (.int e30), (.int (0 : Int32)), (.int (0 : Int32)), (.int (0 : Int32)), (.int (0 : Int32)), (.int (0 : Int32)), (.int (0 : Int32)), (.int (0 : Int32)), (.int (0 : Int32)), (.int (0 : Int32)), (.int (0 : Int32)), (.int (0 : Int32)), (.int (0 : Int32)), (.int (0 : Int32)), (.int (0 : Int32)), (.int (0 : Int32)), (.int (0 : Int32)), (.int (0 : Int32)), (.int (0 : Int32)), (.int (0 : Int32)), (.int (0 : Int32)), (.int (0 : Int32)), (.int (0 : Int32)), (.int (0 : Int32)), (.int (0 : Int32)), (.int (0 : Int32))] := A316
      refine W.dup (pc' := 517) X d_m5_516 rfl rfl ?_
      refine W.bipush (pc' := 519) X (15 : Int32) d_m5_517 (by decide) rfl ?_
      refine W.iload (pc' := 521) X d_m5_519 rfl rfl ?_
      refine W.castore (pc' := 522) (i := 15) X A316 (by decide) rfl (ltb rfl) (hexc_nar F32) g269 nb270 d_m5_521 rfl fun T h317 X K318 A319 => ?_
      have A319 : Ar Z h317 a266 .char [(.int e6), (.int e30), (.int e30), (.int e30), (.int e30), (.int e30), (.int e30), (.int e30), (.int e30), (.int e30), (.int e30), (.int e30), (.int e30), (.int e30), (.int e30), (.int e30), (.int (0 : Int32)), (.int (0 : Int32)), (.int (0 : Int32)), (.int (0 : Int32)), (.int (0 : Int32)), (.int (0 : Int32)), (.int (0 : Int32)), (.int (0 : Int32)), (.int (0 : Int32)), (.int (0 : Int32)), (.int (0 : Int32)), (.int (0 : Int32)), (.int (0 : Int32)), (.int (0 : Int32)), (.int (0 : Int32)), (.int (0 : Int32)), (.int (0 : Int32)), (.int (0 : Int32)), (.int (0 : Int32)), (.int (0 : Int32)), (.int (0 : Int32)), (.int (0 : Int32)), (.int (0 : Int32)), (.int (0 : Int32))] := A319
      refine W.dup (pc' := 523) X d_m5_522 rfl rfl ?_
      refine W.bipush (pc' := 525) X (16 : Int32) d_m5_523 (by decide) rfl ?_
      refine W.iload (pc' := 527) X d_m5_525 rfl rfl ?_
      refine W.castore (pc' := 528) (i := 16) X A319 (by decide) rfl (ltb rfl) (hexc_nar F32) g269 nb270 d_m5_527 rfl fun T h320 X K321 A322 => ?_
      have A322 : Ar Z h320 a266 .char [(.int e6), (.int e30), (.int e30), (.int e30), (.int e30), (.int e30), (.int e30), (.int e30), (.int e30), (.int e30), (.int e30), (.int e30), (.int e30), (.int e30), (.int e30), (.int e30), (.int e30), (.int (0 : Int32)), (.int (0 : Int32)), (.int (0 : Int32)), (.int (0 : Int32)), (.int (0 : Int32)), (.int (0 : Int32)), (.int (0 : Int32)), (.int (0 : Int32)), (.int (0 : Int32)), (.int (0 : Int32)), (.int (0 : Int32)), (.int (0 : Int32)), (.int (0 : Int32)), (.int (0 : Int32)), (.int (0 : Int32)), (.int (0 : Int32)), (.int (0 : Int32)), (.int (0 : Int32)), (.int (0 : Int32)), (.int (0 : Int32)), (.int (0 : Int32)), (.int (0 : Int32)), (.int (0 : Int32))] := A322
      refine W.dup (pc' := 529) X d_m5_528 rfl rfl ?_
      refine W.bipush (pc' := 531) X (17 : Int32) d_m5_529 (by decide) rfl ?_
      refine W.iload (pc' := 533) X d_m5_531 rfl rfl ?_
      refine W.castore (pc' := 534) (i := 17) X A322 (by decide) rfl (ltb rfl) (hexc_nar F32) g269 nb270 d_m5_533 rfl fun T h323 X K324 A325 => ?_
      have A325 : Ar Z h323 a266 .char [(.int e6), (.int e30), (.int e30), (.int e30), (.int e30), (.int e30), (.int e30), (.int e30), (.int e30), (.int e30), (.int e30), (.int e30), (.int e30), (.int e30), (.int e30), (.int e30), (.int e30), (.int e30), (.int (0 : Int32)), (.int (0 : Int32)), (.int (0 : Int32)), (.int (0 : Int32)), (.int (0 : Int32)), (.int (0 : Int32)), (.int (0 : Int32)), (.int (0 : Int32)), (.int (0 : Int32)), (.int (0 : Int32)), (.int (0 : Int32)), (.int (0 : Int32)), (.int (0 : Int32)), (.int (0 : Int32)), (.int (0 : Int32)), (.int (0 : Int32)), (.int (0 : Int32)), (.int (0 : Int32)), (.int (0 : Int32)), (.int (0 : Int32)), (.int (0 : Int32)), (.int (0 : Int32))] := A325
      refine W.dup (pc' := 535) X d_m5_534 rfl rfl ?_
      refine W.bipush (pc' := 537) X (18 : Int32) d_m5_535 (by decide) rfl ?_
      refine W.iload (pc' := 539) X d_m5_537 rfl rfl ?_
      refine W.castore (pc' := 540) (i := 18) X A325 (by decide) rfl (ltb rfl) (hexc_nar F32) g269 nb270 d_m5_539 rfl fun T h326 X K327 A328 => ?_
      have A328 : Ar Z h326 a266 .char [(.int e6), (.int e30), (.int e30), (.int e30), (.int e30), (.int e30), (.int e30), (.int e30), (.int e30), (.int e30), (.int e30), (.int e30), (.int e30), (.int e30), (.int e30), (.int e30), (.int e30), (.int e30), (.int e30), (.int (0 : Int32)), (.int (0 : Int32)), (.int (0 : Int32)), (.int (0 : Int32)), (.int (0 : Int32)), (.int (0 : Int32)), (.int (0 : Int32)), (.int (0 : Int32)), (.int (0 : Int32)), (.int (0 : Int32)), (.int (0 : Int32)), (.int (0 : Int32)), (.int (0 : Int32)), (.int (0 : Int32)), (.int (0 : Int32)), (.int (0 : Int32)), (.int (0 : Int32)), (.int (0 : Int32)), (.int (0 : Int32)), (.int (0 : Int32)), (.int (0 : Int32))] := A328
      refine W.dup (pc' := 541) X d_m5_540 rfl rfl ?_
      refine W.bipush (pc' := 543) X (19 : Int32) d_m5_541 (by decide) rfl ?_
      refine W.iload (pc' := 545) X d_m5_543 rfl rfl ?_
      refine W.castore (pc' := 546) (i := 19) X A328 (by decide) rfl (ltb rfl) (hexc_nar F32) g269 nb270 d_m5_545 rfl fun T h329 X K330 A331 => ?_
      have A331 : Ar Z h329 a266 .char [(.int e6), (.int e30), (.int e30), (.int e30), (.int e30), (.int e30), (.int e30), (.int e30), (.int e30), (.int e30), (.int e30), (.int e30), (.int e30), (.int e30), (.int e30), (.int e30), (.int e30), (.int e30), (.int e30), (.int e30), (.int (0 : Int32)), (.int (0 : Int32)), (.int (0 : Int32)), (.int (0 : Int32)), (.int (0 : Int32)), (.int (0 : Int32)), (.int (0 : Int32)), (.int (0 : Int32)), (.int (0 : Int32)), (.int (0 : Int32)), (.int (0 : Int32)), (.int (0 : Int32)), (.int (0 : Int32)), (.int (0 : Int32)), (.int (0 : Int32)), (.int (0 : Int32)), (.int (0 : Int32)), (.int (0 : Int32)), (.int (0 : Int32)), (.int (0 : Int32))] := A331
      refine W.dup (pc' := 547) X d_m5_546 rfl rfl ?_
      refine W.bipush (pc' := 549) X (20 : Int32) d_m5_547 (by decide) rfl ?_
      refine W.iload (pc' := 551) X d_m5_549 rfl rfl ?_
      refine W.castore (pc' := 552) (i := 20) X A331 (by decide) rfl (ltb rfl) (hexc_nar F16) g269 nb270 d_m5_551 rfl fun T h332 X K333 A334 => ?_
      have A334 : Ar Z h332 a266 .char [(.int e6), (.int e30), (.int e30), (.int e30), (.int e30), (.int e30), (.int e30), (.int e30), (.int e30), (.int e30), (.int e30), (.int e30), (.int e30), (.int e30), (.int e30), (.int e30), (.int e30), (.int e30), (.int e30), (.int e30), (.int e14), (.int (0 : Int32)), (.int (0 : Int32)), (.int (0 : Int32)), (.int (0 : Int32)), (.int (0 : Int32)), (.int (0 : Int32)), (.int (0 : Int32)), (.int (0 : Int32)), (.int (0 : Int32)), (.int (0 : Int32)), (.int (0 : Int32)), (.int (0 : Int32)), (.int (0 : Int32)), (.int (0 : Int32)), (.int (0 : Int32)), (.int (0 : Int32)), (.int (0 : Int32)), (.int (0 : Int32)), (.int (0 : Int32))] := A334
      refine W.dup (pc' := 553) X d_m5_552 rfl rfl ?_
      refine W.bipush (pc' := 555) X (21 : Int32) d_m5_553 (by decide) rfl ?_
      refine W.iload (pc' := 557) X d_m5_555 rfl rfl ?_
      refine W.castore (pc' := 558) (i := 21) X A334 (by decide) rfl (ltb rfl) (hexc_nar F32) g269 nb270 d_m5_557 rfl fun T h335 X K336 A337 => ?_
      have A337 : Ar Z h335 a266 .char [(.int e6), (.int e30), (.int e30), (.int e30), (.int e30), (.int e30), (.int e30), (.int e30), (.int e30), (.int e30), (.int e30), (.int e30), (.int e30), (.int e30), (.int e30), (.int e30), (.int e30), (.int e30), (.int e30), (.int e30), (.int e14), (.int e30), (.int (0 : Int32)), (.int (0 : Int32)), (.int (0 : Int32)), (.int (0 : Int32)), (.int (0 : Int32)), (.int (0 : Int32)), (.int (0 : Int32)), (.int (0 : Int32)), (.int (0 : Int32)), (.int (0 : Int32)), (.int (0 : Int32)), (.int (0 : Int32)), (.int (0 : Int32)), (.int (0 : Int32)), (.int (0 : Int32)), (.int (0 : Int32)), (.int (0 : Int32)), (.int (0 : Int32))] := A337
      refine W.dup (pc' := 559) X d_m5_558 rfl rfl ?_
      refine W.bipush (pc' := 561) X (22 : Int32) d_m5_559 (by decide) rfl ?_
      refine W.iload (pc' := 563) X d_m5_561 rfl rfl ?_
      refine W.castore (pc' := 564) (i := 22) X A337 (by decide) rfl (ltb rfl) (hexc_nar F32) g269 nb270 d_m5_563 rfl fun T h338 X K339 A340 => ?_
      have A340 : Ar Z h338 a266 .char [(.int e6), (.int e30), (.int e30), (.int e30), (.int e30), (.int e30), (.int e30), (.int e30), (.int e30), (.int e30), (.int e30), (.int e30), (.int e30), (.int e30), (.int e30), (.int e30), (.int e30), (.int e30), (.int e30), (.int e30), (.int e14), (.int e30), (.int e30), (.int (0 : Int32)), (.int (0 : Int32)), (.int (0 : Int32)), (.int (0 : Int32)), (.int (0 : Int32)), (.int (0 : Int32)), (.int (0 : Int32)), (.int (0 : Int32)), (.int (0 : Int32)), (.int (0 : Int32)), (.int (0 : Int32)), (.int (0 : Int32)), (.int (0 : Int32)), (.int (0 : Int32)), (.int (0 : Int32)), (.int (0 : Int32)), (.int (0 : Int32))] := A340
      refine W.dup (pc' := 565) X d_m5_564 rfl rfl ?_
      refine W.bipush (pc' := 567) X (23 : Int32) d_m5_565 (by decide) rfl ?_
      refine W.iload (pc' := 569) X d_m5_567 rfl rfl ?_
      refine W.castore (pc' := 570) (i := 23) X A340 (by decide) rfl (ltb rfl) (hexc_nar F32) g269 nb270 d_m5_569 rfl fun T h341 X K342 A343 => ?_
      have A343 : Ar Z h341 a266 .char [(.int e6), (.int e30), (.int e30), (.int e30), (.int e30), (.int e30), (.int e30), (.int e30), (.int e30), (.int e30), (.int e30), (.int e30), (.int e30), (.int e30), (.int e30), (.int e30), (.int e30), (.int e30), (.int e30), (.int e30), (.int e14), (.int e30), (.int e30), (.int e30), (.int (0 : Int32)), (.int (0 : Int32)), (.int (0 : Int32)), (.int (0 : Int32)), (.int (0 : Int32)), (.int (0 : Int32)), (.int (0 : Int32)), (.int (0 : Int32)), (.int (0 : Int32)), (.int (0 : Int32)), (.int (0 : Int32)), (.int (0 : Int32)), (.int (0 : Int32)), (.int (0 : Int32)), (.int (0 : Int32)), (.int (0 : Int32))] := A343
      refine W.dup (pc' := 571) X d_m5_570 rfl rfl ?_
      refine W.bipush (pc' := 573) X (24 : Int32) d_m5_571 (by decide) rfl ?_
      refine W.iload (pc' := 575) X d_m5_573 rfl rfl ?_
      refine W.castore (pc' := 576) (i := 24) X A343 (by decide) rfl (ltb rfl) (hexc_nar F32) g269 nb270 d_m5_575 rfl fun T h344 X K345 A346 => ?_
      have A346 : Ar Z h344 a266 .char [(.int e6), (.int e30), (.int e30), (.int e30), (.int e30), (.int e30), (.int e30), (.int e30), (.int e30), (.int e30), (.int e30), (.int e30), (.int e30), (.int e30), (.int e30), (.int e30), (.int e30), (.int e30), (.int e30), (.int e30), (.int e14), (.int e30), (.int e30), (.int e30), (.int e30), (.int (0 : Int32)), (.int (0 : Int32)), (.int (0 : Int32)), (.int (0 : Int32)), (.int (0 : Int32)), (.int (0 : Int32)), (.int (0 : Int32)), (.int (0 : Int32)), (.int (0 : Int32)), (.int (0 : Int32)), (.int (0 : Int32)), (.int (0 : Int32)), (.int (0 : Int32)), (.int (0 : Int32)), (.int (0 : Int32))] := A346
      refine W.dup (pc' := 577) X d_m5_576 rfl rfl ?_
      refine W.bipush (pc' := 579) X (25 : Int32) d_m5_577 (by decide) rfl ?_
      refine W.iload (pc' := 581) X d_m5_579 rfl rfl ?_
      refine W.castore (pc' := 582) (i := 25) X A346 (by decide) rfl (ltb rfl) (hexc_nar F32) g269 nb270 d_m5_581 rfl fun T h347 X K348 A349 => ?_
      have A349 : Ar Z h347 a266 .char [(.int e6), (.int e30), (.int e30), (.int e30), (.int e30), (.int e30), (.int e30), (.int e30), (.int e30), (.int e30), (.int e30), (.int e30), (.int e30), (.int e30), (.int e30), (.int e30), (.int e30), (.int e30), (.int e30), (.int e30), (.int e14), (.int e30), (.int e30), (.int e30), (.int e30), (.int e30), (.int (0 : Int32)), (.int (0 : Int32)), (.int (0 : Int32)), (.int (0 : Int32)), (.int (0 : Int32)), (.int (0 : Int32)), (.int (0 : Int32)), (.int (0 : Int32)), (.int (0 : Int32)), (.int (0 : Int32)), (.int (0 : Int32)), (.int (0 : Int32)), (.int (0 : Int32)), (.int (0 : Int32))] := A349
      refine W.dup (pc' := 583) X d_m5_582 rfl rfl ?_
      refine W.bipush (pc' := 585) X (26 : Int32) d_m5_583 (by decide) rfl ?_
      refine W.iload (pc' := 587) X d_m5_585 rfl rfl ?_
      refine W.castore (pc' := 588) (i := 26) X A349 (by decide) rfl (ltb rfl) (hexc_nar F32) g269 nb270 d_m5_587 rfl fun T h350 X K351 A352 => ?_
      have A352 : Ar Z h350 a266 .char [(.int e6), (.int e30), (.int e30), (.int e30), (.int e30), (.int e30), (.int e30), (.int e30), (.int e30), (.int e30), (.int e30), (.int e30), (.int e30), (.int e30), (.int e30), (.int e30), (.int e30), (.int e30), (.int e30), (.int e30), (.int e14), (.int e30), (.int e30), (.int e30), (.int e30), (.int e30), (.int e30), (.int (0 : Int32)), (.int (0 : Int32)), (.int (0 : Int32)), (.int (0 : Int32)), (.int (0 : Int32)), (.int (0 : Int32)), (.int (0 : Int32)), (.int (0 : Int32)), (.int (0 : Int32)), (.int (0 : Int32)), (.int (0 : Int32)), (.int (0 : Int32)), (.int (0 : Int32))] := A352
      refine W.dup (pc' := 589) X d_m5_588 rfl rfl ?_
      refine W.bipush (pc' := 591) X (27 : Int32) d_m5_589 (by decide) rfl ?_
      refine W.iload (pc' := 593) X d_m5_591 rfl rfl ?_
      refine W.castore (pc' := 594) (i := 27) X A352 (by decide) rfl (ltb rfl) (hexc_nar F32) g269 nb270 d_m5_593 rfl fun T h353 X K354 A355 => ?_
      have A355 : Ar Z h353 a266 .char [(.int e6), (.int e30), (.int e30), (.int e30), (.int e30), (.int e30), (.int e30), (.int e30), (.int e30), (.int e30), (.int e30), (.int e30), (.int e30), (.int e30), (.int e30), (.int e30), (.int e30), (.int e30), (.int e30), (.int e30), (.int e14), (.int e30), (.int e30), (.int e30), (.int e30), (.int e30), (.int e30), (.int e30), (.int (0 : Int32)), (.int (0 : Int32)), (.int (0 : Int32)), (.int (0 : Int32)), (.int (0 : Int32)), (.int (0 : Int32)), (.int (0 : Int32)), (.int (0 : Int32)), (.int (0 : Int32)), (.int (0 : Int32)), (.int (0 : Int32)), (.int (0 : Int32))] := A355
      refine W.dup (pc' := 595) X d_m5_594 rfl rfl ?_
      refine W.bipush (pc' := 597) X (28 : Int32) d_m5_595 (by decide) rfl ?_
      refine W.iload (pc' := 599) X d_m5_597 rfl rfl ?_
      refine W.castore (pc' := 600) (i := 28) X A355 (by decide) rfl (ltb rfl) (hexc_nar F32) g269 nb270 d_m5_599 rfl fun T h356 X K357 A358 => ?_
      have A358 : Ar Z h356 a266 .char [(.int e6), (.int e30), (.int e30), (.int e30), (.int e30), (.int e30), (.int e30), (.int e30), (.int e30), (.int e30), (.int e30), (.int e30), (.int e30), (.int e30), (.int e30), (.int e30), (.int e30), (.int e30), (.int e30), (.int e30), (.int e14), (.int e30), (.int e30), (.int e30), (.int e30), (.int e30), (.int e30), (.int e30), (.int e30), (.int (0 : Int32)), (.int (0 : Int32)), (.int (0 : Int32)), (.int (0 : Int32)), (.int (0 : Int32)), (.int (0 : Int32)), (.int (0 : Int32)), (.int (0 : Int32)), (.int (0 : Int32)), (.int (0 : Int32)), (.int (0 : Int32))] := A358
      refine W.dup (pc' := 601) X d_m5_600 rfl rfl ?_
      refine W.bipush (pc' := 603) X (29 : Int32) d_m5_601 (by decide) rfl ?_
      refine W.iload (pc' := 605) X d_m5_603 rfl rfl ?_
      refine W.castore (pc' := 606) (i := 29) X A358 (by decide) rfl (ltb rfl) (hexc_nar F32) g269 nb270 d_m5_605 rfl fun T h359 X K360 A361 => ?_
      have A361 : Ar Z h359 a266 .char [(.int e6), (.int e30), (.int e30), (.int e30), (.int e30), (.int e30), (.int e30), (.int e30), (.int e30), (.int e30), (.int e30), (.int e30), (.int e30), (.int e30), (.int e30), (.int e30), (.int e30), (.int e30), (.int e30), (.int e30), (.int e14), (.int e30), (.int e30), (.int e30), (.int e30), (.int e30), (.int e30), (.int e30), (.int e30), (.int e30), (.int (0 : Int32)), (.int (0 : Int32)), (.int (0 : Int32)), (.int (0 : Int32)), (.int (0 : Int32)), (.int (0 : Int32)), (.int (0 : Int32)), (.int (0 : Int32)), (.int (0 : Int32)), (.int (0 : Int32))] := A361
      refine W.dup (pc' := 607) X d_m5_606 rfl rfl ?_
      refine W.bipush (pc' := 609) X (30 : Int32) d_m5_607 (by decide) rfl ?_
      refine W.iload (pc' := 611) X d_m5_609 rfl rfl ?_
      refine W.castore (pc' := 612) (i := 30) X A361 (by decide) rfl (ltb rfl) (hexc_nar F32) g269 nb270 d_m5_611 rfl fun T h362 X K363 A364 => ?_
      have A364 : Ar Z h362 a266 .char [(.int e6), (.int e30), (.int e30), (.int e30), (.int e30), (.int e30), (.int e30), (.int e30), (.int e30), (.int e30), (.int e30), (.int e30), (.int e30), (.int e30), (.int e30), (.int e30), (.int e30), (.int e30), (.int e30), (.int e30), (.int e14), (.int e30), (.int e30), (.int e30), (.int e30), (.int e30), (.int e30), (.int e30), (.int e30), (.int e30), (.int e30), (.int (0 : Int32)), (.int (0 : Int32)), (.int (0 : Int32)), (.int (0 : Int32)), (.int (0 : Int32)), (.int (0 : Int32)), (.int (0 : Int32)), (.int (0 : Int32)), (.int (0 : Int32))] := A364
      refine W.dup (pc' := 613) X d_m5_612 rfl rfl ?_
      refine W.bipush (pc' := 615) X (31 : Int32) d_m5_613 (by decide) rfl ?_
      refine W.iload (pc' := 617) X d_m5_615 rfl rfl ?_
      refine W.castore (pc' := 618) (i := 31) X A364 (by decide) rfl (ltb rfl) (hexc_nar F32) g269 nb270 d_m5_617 rfl fun T h365 X K366 A367 => ?_
      have A367 : Ar Z h365 a266 .char [(.int e6), (.int e30), (.int e30), (.int e30), (.int e30), (.int e30), (.int e30), (.int e30), (.int e30), (.int e30), (.int e30), (.int e30), (.int e30), (.int e30), (.int e30), (.int e30), (.int e30), (.int e30), (.int e30), (.int e30), (.int e14), (.int e30), (.int e30), (.int e30), (.int e30), (.int e30), (.int e30), (.int e30), (.int e30), (.int e30), (.int e30), (.int e30), (.int (0 : Int32)), (.int (0 : Int32)), (.int (0 : Int32)), (.int (0 : Int32)), (.int (0 : Int32)), (.int (0 : Int32)), (.int (0 : Int32)), (.int (0 : Int32))] := A367
      refine W.dup (pc' := 619) X d_m5_618 rfl rfl ?_
      refine W.bipush (pc' := 621) X (32 : Int32) d_m5_619 (by decide) rfl ?_
      refine W.iload (pc' := 623) X d_m5_621 rfl rfl ?_
      refine W.castore (pc' := 624) (i := 32) X A367 (by decide) rfl (ltb rfl) (hexc_nar F32) g269 nb270 d_m5_623 rfl fun T h368 X K369 A370 => ?_
      have A370 : Ar Z h368 a266 .char [(.int e6), (.int e30), (.int e30), (.int e30), (.int e30), (.int e30), (.int e30), (.int e30), (.int e30), (.int e30), (.int e30), (.int e30), (.int e30), (.int e30), (.int e30), (.int e30), (.int e30), (.int e30), (.int e30), (.int e30), (.int e14), (.int e30), (.int e30), (.int e30), (.int e30), (.int e30), (.int e30), (.int e30), (.int e30), (.int e30), (.int e30), (.int e30), (.int e30), (.int (0 : Int32)), (.int (0 : Int32)), (.int (0 : Int32)), (.int (0 : Int32)), (.int (0 : Int32)), (.int (0 : Int32)), (.int (0 : Int32))] := A370
      refine W.dup (pc' := 625) X d_m5_624 rfl rfl ?_
      refine W.bipush (pc' := 627) X (33 : Int32) d_m5_625 (by decide) rfl ?_
      refine W.iload (pc' := 629) X d_m5_627 rfl rfl ?_
      refine W.castore (pc' := 630) (i := 33) X A370 (by decide) rfl (ltb rfl) (hexc_nar F32) g269 nb270 d_m5_629 rfl fun T h371 X K372 A373 => ?_
      have A373 : Ar Z h371 a266 .char [(.int e6), (.int e30), (.int e30), (.int e30), (.int e30), (.int e30), (.int e30), (.int e30), (.int e30), (.int e30), (.int e30), (.int e30), (.int e30), (.int e30), (.int e30), (.int e30), (.int e30), (.int e30), (.int e30), (.int e30), (.int e14), (.int e30), (.int e30), (.int e30), (.int e30), (.int e30), (.int e30), (.int e30), (.int e30), (.int e30), (.int e30), (.int e30), (.int e30), (.int e30), (.int (0 : Int32)), (.int (0 : Int32)), (.int (0 : Int32)), (.int (0 : Int32)), (.int (0 : Int32)), (.int (0 : Int32))] := A373
      refine W.dup (pc' := 631) X d_m5_630 rfl rfl ?_
      refine W.bipush (pc' := 633) X (34 : Int32) d_m5_631 (by decide) rfl ?_
      refine W.iload (pc' := 635) X d_m5_633 rfl rfl ?_
      refine W.castore (pc' := 636) (i := 34) X A373 (by decide) rfl (ltb rfl) (hexc_nar F32) g269 nb270 d_m5_635 rfl fun T h374 X K375 A376 => ?_
      have A376 : Ar Z h374 a266 .char [(.int e6), (.int e30), (.int e30), (.int e30), (.int e30), (.int e30), (.int e30), (.int e30), (.int e30), (.int e30), (.int e30), (.int e30), (.int e30), (.int e30), (.int e30), (.int e30), (.int e30), (.int e30), (.int e30), (.int e30), (.int e14), (.int e30), (.int e30), (.int e30), (.int e30), (.int e30), (.int e30), (.int e30), (.int e30), (.int e30), (.int e30), (.int e30), (.int e30), (.int e30), (.int e30), (.int (0 : Int32)), (.int (0 : Int32)), (.int (0 : Int32)), (.int (0 : Int32)), (.int (0 : Int32))] := A376
      refine W.dup (pc' := 637) X d_m5_636 rfl rfl ?_
      refine W.bipush (pc' := 639) X (35 : Int32) d_m5_637 (by decide) rfl ?_
      refine W.iload (pc' := 641) X d_m5_639 rfl rfl ?_
      refine W.castore (pc' := 642) (i := 35) X A376 (by decide) rfl (ltb rfl) (hexc_nar F32) g269 nb270 d_m5_641 rfl fun T h377 X K378 A379 => ?_
      have A379 : Ar Z h377 a266 .char [(.int e6), (.int e30), (.int e30), (.int e30), (.int e30), (.int e30), (.int e30), (.int e30), (.int e30), (.int e30), (.int e30), (.int e30), (.int e30), (.int e30), (.int e30), (.int e30), (.int e30), (.int e30), (.int e30), (.int e30), (.int e14), (.int e30), (.int e30), (.int e30), (.int e30), (.int e30), (.int e30), (.int e30), (.int e30), (.int e30), (.int e30), (.int e30), (.int e30), (.int e30), (.int e30), (.int e30), (.int (0 : Int32)), (.int (0 : Int32)), (.int (0 : Int32)), (.int (0 : Int32))] := A379
      refine W.dup (pc' := 643) X d_m5_642 rfl rfl ?_
      refine W.bipush (pc' := 645) X (36 : Int32) d_m5_643 (by decide) rfl ?_
      refine W.iload (pc' := 647) X d_m5_645 rfl rfl ?_
      refine W.castore (pc' := 648) (i := 36) X A379 (by decide) rfl (ltb rfl) (hexc_nar F32) g269 nb270 d_m5_647 rfl fun T h380 X K381 A382 => ?_
      have A382 : Ar Z h380 a266 .char [(.int e6), (.int e30), (.int e30), (.int e30), (.int e30), (.int e30), (.int e30), (.int e30), (.int e30), (.int e30), (.int e30), (.int e30), (.int e30), (.int e30), (.int e30), (.int e30), (.int e30), (.int e30), (.int e30), (.int e30), (.int e14), (.int e30), (.int e30), (.int e30), (.int e30), (.int e30), (.int e30), (.int e30), (.int e30), (.int e30), (.int e30), (.int e30), (.int e30), (.int e30), (.int e30), (.int e30), (.int e30), (.int (0 : Int32)), (.int (0 : Int32)), (.int (0 : Int32))] := A382
      refine W.dup (pc' := 649) X d_m5_648 rfl rfl ?_
      refine W.bipush (pc' := 651) X (37 : Int32) d_m5_649 (by decide) rfl ?_
      refine W.iload (pc' := 653) X d_m5_651 rfl rfl ?_
      refine W.castore (pc' := 654) (i := 37) X A382 (by decide) rfl (ltb rfl) (hexc_nar F32) g269 nb270 d_m5_653 rfl fun T h383 X K384 A385 => ?_
      have A385 : Ar Z h383 a266 .char [(.int e6), (.int e30), (.int e30), (.int e30), (.int e30), (.int e30), (.int e30), (.int e30), (.int e30), (.int e30), (.int e30), (.int e30), (.int e30), (.int e30), (.int e30), (.int e30), (.int e30), (.int e30), (.int e30), (.int e30), (.int e14), (.int e30), (.int e30), (.int e30), (.int e30), (.int e30), (.int e30), (.int e30), (.int e30), (.int e30), (.int e30), (.int e30), (.int e30), (.int e30), (.int e30), (.int e30), (.int e30), (.int e30), (.int (0 : Int32)), (.int (0 : Int32))] := A385
      refine W.dup (pc' := 655) X d_m5_654 rfl rfl ?_
      refine W.bipush (pc' := 657) X (38 : Int32) d_m5_655 (by decide) rfl ?_
      refine W.iload (pc' := 659) X d_m5_657 rfl rfl ?_
      refine W.castore (pc' := 660) (i := 38) X A385 (by decide) rfl (ltb rfl) (hexc_nar F32) g269 nb270 d_m5_659 rfl fun T h386 X K387 A388 => ?_
      have A388 : Ar Z h386 a266 .char [(.int e6), (.int e30), (.int e30), (.int e30), (.int e30), (.int e30), (.int e30), (.int e30), (.int e30), (.int e30), (.int e30), (.int e30), (.int e30), (.int e30), (.int e30), (.int e30), (.int e30), (.int e30), (.int e30), (.int e30), (.int e14), (.int e30), (.int e30), (.int e30), (.int e30), (.int e30), (.int e30), (.int e30), (.int e30), (.int e30), (.int e30), (.int e30), (.int e30), (.int e30), (.int e30), (.int e30), (.int e30), (.int e30), (.int e30), (.int (0 : Int32))] := A388
      refine W.dup (pc' := 661) X d_m5_660 rfl rfl ?_
      refine W.bipush (pc' := 663) X (39 : Int32) d_m5_661 (by decide) rfl ?_
      refine W.iload (pc' := 665) X d_m5_663 rfl rfl ?_
      refine W.castore (pc' := 666) (i := 39) X A388 (by decide) rfl (ltb rfl) (hexc_nar F24) g269 nb270 d_m5_665 rfl fun T h389 X K390 A391 => ?_
      have A391 : Ar Z h389 a266 .char [(.int e6), (.int e30), (.int e30), (.int e30), (.int e30), (.int e30), (.int e30), (.int e30), (.int e30), (.int e30), (.int e30), (.int e30), (.int e30), (.int e30), (.int e30), (.int e30), (.int e30), (.int e30), (.int e30), (.int e30), (.int e14), (.int e30), (.int e30), (.int e30), (.int e30), (.int e30), (.int e30), (.int e30), (.int e30), (.int e30), (.int e30), (.int e30), (.int e30), (.int e30), (.int e30), (.int e30), (.int e30), (.int e30), (.int e30), (.int e22)] := A391
      have F392 := (((((((((((((((((((((((((((((((((((((((((E261.keep K267).keep K273).keep K276).keep K279).keep K282).keep K285).keep K288).keep K291).keep K294).keep K297).keep K300).keep K303).keep K306).keep K309).keep K312).keep K315).keep K318).keep K321).keep K324).keep K327).keep K330).keep K333).keep K336).keep K339).keep K342).keep K345).keep K348).keep K351).keep K354).keep K357).keep K360).keep K363).keep K366).keep K369).keep K372).keep K375).keep K378).keep K381).keep K384).keep K387).keep K390)
      have F393 := (((((((((((((((((((((((((((((((((((((((((F263.keep K267 nin0).keep K273 (ninS (Nat.ne_of_lt (Nat.lt_of_lt_of_le E261.lt (Nat.le_trans (Nat.le_refl _) g268))) nin0)).keep K276 (ninS (Nat.ne_of_lt (Nat.lt_of_lt_of_le E261.lt (Nat.le_trans (Nat.le_refl _) g268))) nin0)).keep K279 (ninS (Nat.ne_of_lt (Nat.lt_of_lt_of_le E261.lt (Nat.le_trans (Nat.le_refl _) g268))) nin0)).keep K282 (ninS (Nat.ne_of_lt (Nat.lt_of_lt_of_le E261.lt (Nat.le_trans (Nat.le_refl _) g268))) nin0)).keep K285 (ninS (Nat.ne_of_lt (Nat.lt_of_lt_of_le E261.lt (Nat.le_trans (Nat.le_refl _) g268))) nin0)).keep K288 (ninS (Nat.ne_of_lt (Nat.lt_of_lt_of_le E261.lt (Nat.le_trans (Nat.le_refl _) g268))) nin0)).keep K291 (ninS (Nat.ne_of_lt (Nat.lt_of_lt_of_le E261.lt (Nat.le_trans (Nat.le_refl _) g268))) nin0)).keep K294 (ninS (Nat.ne_of_lt (Nat.lt_of_lt_of_le E261.lt (Nat.le_trans (Nat.le_refl _) g268))) nin0)).keep K297 (ninS (Nat.ne_of_lt (Nat.lt_of_lt_of_le E261.lt (Nat.le_trans (Nat.le_refl _) g268))) nin0)).keep K300 (ninS (Nat.ne_of_lt (Nat.lt_of_lt_of_le E261.lt (Nat.le_trans (Nat.le_refl _) g268))) nin0)).keep K303 (ninS (Nat.ne_of_lt (Nat.lt_of_lt_of_le E261.lt (Nat.le_trans (Nat.le_refl _) g268))) nin0)).keep K306 (ninS (Nat.ne_of_lt (Nat.lt_of_lt_of_le E261.lt (Nat.le_trans (Nat.le_refl _) g268))) nin0)).keep K309 (ninS (Nat.ne_of_lt (Nat.lt_of_lt_of_le E261.lt (Nat.le_trans (Nat.le_refl _) g268))) nin0)).keep K312 (ninS (Nat.ne_of_lt (Nat.lt_of_lt_of_le E261.lt (Nat.le_trans (Nat.le_refl _) g268))) nin0)).keep K315 (ninS (Nat.ne_of_lt (Nat.lt_of_lt_of_le E261.lt (Nat.le_trans (Nat.le_refl _) g268))) nin0)).keep K318 (ninS (Nat.ne_of_lt (Nat.lt_of_lt_of_le E261.lt (Nat.le_trans (Nat.le_refl _) g268))) nin0)).keep K321 (ninS (Nat.ne_of_lt (Nat.lt_of_lt_of_le E261.lt (Nat.le_trans (Nat.le_refl _) g268))) nin0)).keep K324 (ninS (Nat.ne_of_lt (Nat.lt_of_lt_of_le E261.lt (Nat.le_trans (Nat.le_refl _) g268))) nin0)).keep K327 (ninS (Nat.ne_of_lt (Nat.lt_of_lt_of_le E261.lt (Nat.le_trans (Nat.le_refl _) g268))) nin0)).keep K330 (ninS (Nat.ne_of_lt (Nat.lt_of_lt_of_le E261.lt (Nat.le_trans (Nat.le_refl _) g268))) nin0)).keep K333 (ninS (Nat.ne_of_lt (Nat.lt_of_lt_of_le E261.lt (Nat.le_trans (Nat.le_refl _) g268))) nin0)).keep K336 (ninS (Nat.ne_of_lt (Nat.lt_of_lt_of_le E261.lt (Nat.le_trans (Nat.le_refl _) g268))) nin0)).keep K339 (ninS (Nat.ne_of_lt (Nat.lt_of_lt_of_le E261.lt (Nat.le_trans (Nat.le_refl _) g268))) nin0)).keep K342 (ninS (Nat.ne_of_lt (Nat.lt_of_lt_of_le E261.lt (Nat.le_trans (Nat.le_refl _) g268))) nin0)).keep K345 (ninS (Nat.ne_of_lt (Nat.lt_of_lt_of_le E261.lt (Nat.le_trans (Nat.le_refl _) g268))) nin0)).keep K348 (ninS (Nat.ne_of_lt (Nat.lt_of_lt_of_le E261.lt (Nat.le_trans (Nat.le_refl _) g268))) nin0)).keep K351 (ninS (Nat.ne_of_lt (Nat.lt_of_lt_of_le E261.lt (Nat.le_trans (Nat.le_refl _) g268))) nin0)).keep K354 (ninS (Nat.ne_of_lt (Nat.lt_of_lt_of_le E261.lt (Nat.le_trans (Nat.le_refl _) g268))) nin0)).keep K357 (ninS (Nat.ne_of_lt (Nat.lt_of_lt_of_le E261.lt (Nat.le_trans (Nat.le_refl _) g268))) nin0)).keep K360 (ninS (Nat.ne_of_lt (Nat.lt_of_lt_of_le E261.lt (Nat.le_trans (Nat.le_refl _) g268))) nin0)).keep K363 (ninS (Nat.ne_of_lt (Nat.lt_of_lt_of_le E261.lt (Nat.le_trans (Nat.le_refl _) g268))) nin0)).keep K366 (ninS (Nat.ne_of_lt (Nat.lt_of_lt_of_le E261.lt (Nat.le_trans (Nat.le_refl _) g268))) nin0)).keep K369 (ninS (Nat.ne_of_lt (Nat.lt_of_lt_of_le E261.lt (Nat.le_trans (Nat.le_refl _) g268))) nin0)).keep K372 (ninS (Nat.ne_of_lt (Nat.lt_of_lt_of_le E261.lt (Nat.le_trans (Nat.le_refl _) g268))) nin0)).keep K375 (ninS (Nat.ne_of_lt (Nat.lt_of_lt_of_le E261.lt (Nat.le_trans (Nat.le_refl _) g268))) nin0)).keep K378 (ninS (Nat.ne_of_lt (Nat.lt_of_lt_of_le E261.lt (Nat.le_trans (Nat.le_refl _) g268))) nin0)).keep K381 (ninS (Nat.ne_of_lt (Nat.lt_of_lt_of_le E261.lt (Nat.le_trans (Nat.le_refl _) g268))) nin0)).keep K384 (ninS (Nat.ne_of_lt (Nat.lt_of_lt_of_le E261.lt (Nat.le_trans (Nat.le_refl _) g268))) nin0)).keep K387 (ninS (Nat.ne_of_lt (Nat.lt_of_lt_of_le E261.lt (Nat.le_trans (Nat.le_refl _) g268))) nin0)).keep K390 (ninS (Nat.ne_of_lt (Nat.lt_of_lt_of_le E261.lt (Nat.le_trans (Nat.le_refl _) g268))) nin0))
      have F394 := (((((((((((((((((((((((((((((((((((((((((F264.keep K267 nin0).keep K273 (ninS (Nat.ne_of_lt (Nat.lt_of_lt_of_le E261.lt (Nat.le_trans (Nat.le_refl _) g268))) nin0)).keep K276 (ninS (Nat.ne_of_lt (Nat.lt_of_lt_of_le E261.lt (Nat.le_trans (Nat.le_refl _) g268))) nin0)).keep K279 (ninS (Nat.ne_of_lt (Nat.lt_of_lt_of_le E261.lt (Nat.le_trans (Nat.le_refl _) g268))) nin0)).keep K282 (ninS (Nat.ne_of_lt (Nat.lt_of_lt_of_le E261.lt (Nat.le_trans (Nat.le_refl _) g268))) nin0)).keep K285 (ninS (Nat.ne_of_lt (Nat.lt_of_lt_of_le E261.lt (Nat.le_trans (Nat.le_refl _) g268))) nin0)).keep K288 (ninS (Nat.ne_of_lt (Nat.lt_of_lt_of_le E261.lt (Nat.le_trans (Nat.le_refl _) g268))) nin0)).keep K291 (ninS (Nat.ne_of_lt (Nat.lt_of_lt_of_le E261.lt (Nat.le_trans (Nat.le_refl _) g268))) nin0)).keep K294 (ninS (Nat.ne_of_lt (Nat.lt_of_lt_of_le E261.lt (Nat.le_trans (Nat.le_refl _) g268))) nin0)).keep K297 (ninS (Nat.ne_of_lt (Nat.lt_of_lt_of_le E261.lt (Nat.le_trans (Nat.le_refl _) g268))) nin0)).keep K300 (ninS (Nat.ne_of_lt (Nat.lt_of_lt_of_le E261.lt (Nat.le_trans (Nat.le_refl _) g268))) nin0)).keep K303 (ninS (Nat.ne_of_lt (Nat.lt_of_lt_of_le E261.lt (Nat.le_trans (Nat.le_refl _) g268))) nin0)).keep K306 (ninS (Nat.ne_of_lt (Nat.lt_of_lt_of_le E261.lt (Nat.le_trans (Nat.le_refl _) g268))) nin0)).keep K309 (ninS (Nat.ne_of_lt (Nat.lt_of_lt_of_le E261.lt (Nat.le_trans (Nat.le_refl _) g268))) nin0)).keep K312 (ninS (Nat.ne_of_lt (Nat.lt_of_lt_of_le E261.lt (Nat.le_trans (Nat.le_refl _) g268))) nin0)).keep K315 (ninS (Nat.ne_of_lt (Nat.lt_of_lt_of_le E261.lt (Nat.le_trans (Nat.le_refl _) g268))) nin0)).keep K318 (ninS (Nat.ne_of_lt (Nat.lt_of_lt_of_le E261.lt (Nat.le_trans (Nat.le_refl _) g268))) nin0)).keep K321 (ninS (Nat.ne_of_lt (Nat.lt_of_lt_of_le E261.lt (Nat.le_trans (Nat.le_refl _) g268))) nin0)).keep K324 (ninS (Nat.ne_of_lt (Nat.lt_of_lt_of_le E261.lt (Nat.le_trans (Nat.le_refl _) g268))) nin0)).keep K327 (ninS (Nat.ne_of_lt (Nat.lt_of_lt_of_le E261.lt (Nat.le_trans (Nat.le_refl _) g268))) nin0)).keep K330 (ninS (Nat.ne_of_lt (Nat.lt_of_lt_of_le E261.lt (Nat.le_trans (Nat.le_refl _) g268))) nin0)).keep K333 (ninS (Nat.ne_of_lt (Nat.lt_of_lt_of_le E261.lt (Nat.le_trans (Nat.le_refl _) g268))) nin0)).keep K336 (ninS (Nat.ne_of_lt (Nat.lt_of_lt_of_le E261.lt (Nat.le_trans (Nat.le_refl _) g268))) nin0)).keep K339 (ninS (Nat.ne_of_lt (Nat.lt_of_lt_of_le E261.lt (Nat.le_trans (Nat.le_refl _) g268))) nin0)).keep K342 (ninS (Nat.ne_of_lt (Nat.lt_of_lt_of_le E261.lt (Nat.le_trans (Nat.le_refl _) g268))) nin0)).keep K345 (ninS (Nat.ne_of_lt (Nat.lt_of_lt_of_le E261.lt (Nat.le_trans (Nat.le_refl _) g268))) nin0)).keep K348 (ninS (Nat.ne_of_lt (Nat.lt_of_lt_of_le E261.lt (Nat.le_trans (Nat.le_refl _) g268))) nin0)).keep K351 (ninS (Nat.ne_of_lt (Nat.lt_of_lt_of_le E261.lt (Nat.le_trans (Nat.le_refl _) g268))) nin0)).keep K354 (ninS (Nat.ne_of_lt (Nat.lt_of_lt_of_le E261.lt (Nat.le_trans (Nat.le_refl _) g268))) nin0)).keep K357 (ninS (Nat.ne_of_lt (Nat.lt_of_lt_of_le E261.lt (Nat.le_trans (Nat.le_refl _) g268))) nin0)).keep K360 (ninS (Nat.ne_of_lt (Nat.lt_of_lt_of_le E261.lt (Nat.le_trans (Nat.le_refl _) g268))) nin0)).keep K363 (ninS (Nat.ne_of_lt (Nat.lt_of_lt_of_le E261.lt (Nat.le_trans (Nat.le_refl _) g268))) nin0)).keep K366 (ninS (Nat.ne_of_lt (Nat.lt_of_lt_of_le E261.lt (Nat.le_trans (Nat.le_refl _) g268))) nin0)).keep K369 (ninS (Nat.ne_of_lt (Nat.lt_of_lt_of_le E261.lt (Nat.le_trans (Nat.le_refl _) g268))) nin0)).keep K372 (ninS (Nat.ne_of_lt (Nat.lt_of_lt_of_le E261.lt (Nat.le_trans (Nat.le_refl _) g268))) nin0)).keep K375 (ninS (Nat.ne_of_lt (Nat.lt_of_lt_of_le E261.lt (Nat.le_trans (Nat.le_refl _) g268))) nin0)).keep K378 (ninS (Nat.ne_of_lt (Nat.lt_of_lt_of_le E261.lt (Nat.le_trans (Nat.le_refl _) g268))) nin0)).keep K381 (ninS (Nat.ne_of_lt (Nat.lt_of_lt_of_le E261.lt (Nat.le_trans (Nat.le_refl _) g268))) nin0)).keep K384 (ninS (Nat.ne_of_lt (Nat.lt_of_lt_of_le E261.lt (Nat.le_trans (Nat.le_refl _) g268))) nin0)).keep K387 (ninS (Nat.ne_of_lt (Nat.lt_of_lt_of_le E261.lt (Nat.le_trans (Nat.le_refl _) g268))) nin0)).keep K390 (ninS (Nat.ne_of_lt (Nat.lt_of_lt_of_le E261.lt (Nat.le_trans (Nat.le_refl _) g268))) nin0))
      have en395 := X.en
      refine W.callN (pc' := 669) (W := 1) (argsL := [(.ref a266)]) (st := [(.ref a256)]) (k' := 11) (n' := 380) (a := a256) X (c_init1 (x := a256) (a := a266) (cs := [e6, e30, e30, e30, e30, e30, e30, e30, e30, e30, e30, e30, e30, e30, e30, e30, e30, e30, e30, e30, e14, e30, e30, e30, e30, e30, e30, e30, e30, e30, e30, e30, e30, e30, e30, e30, e30, e30, e30, e22]) (v0 := .null) (c0 := (.int (0 : Int32))) G X.en F392 F393 F394 A391 (latS (hexc_lat F8) (latS (hexc_lat F32) (latS (hexc_lat F32) (latS (hexc_lat F32) (latS (hexc_lat F32) (latS (hexc_lat F32) (latS (hexc_lat F32) (latS (hexc_lat F32) (latS (hexc_lat F32) (latS (hexc_lat F32) (latS (hexc_lat F32) (latS (hexc_lat F32) (latS (hexc_lat F32) (latS (hexc_lat F32) (latS (hexc_lat F32) (latS (hexc_lat F32) (latS (hexc_lat F32) (latS (hexc_lat F32) (latS (hexc_lat F32) (latS (hexc_lat F32) (latS (hexc_lat F16) (latS (hexc_lat F32) (latS (hexc_lat F32) (latS (hexc_lat F32) (latS (hexc_lat F32) (latS (hexc_lat F32) (latS (hexc_lat F32) (latS (hexc_lat F32) (latS (hexc_lat F32) (latS (hexc_lat F32) (latS (hexc_lat F32) (latS (hexc_lat F32) (latS (hexc_lat F32) (latS (hexc_lat F32) (latS (hexc_lat F32) (latS (hexc_lat F32) (latS (hexc_lat F32) (latS (hexc_lat F32) (latS (hexc_lat F32) (latS (hexc_lat F24) lat0)))))))))))))))))))))))))))))))))))))))) (ltb rfl) (leb rfl) g259 nb260) rfl (w52 G) (w53 G) (w54 G) (w18 G) (by decide) (by decide) (by decide) rfl (lenOf pd22 rfl) rfl rfl (Nat.le_of_eq rfl) d_m5_666 rfl (by decide) (by decide) (by decide) (by decide) (kv fun T h396 X z397 q398 => ?_)
      obtain ⟨a399, K400, g401, F402⟩ := q398
      have g403 : Z.heap.size ≤ a399 := Nat.le_trans (Nat.le_trans hz0 (Nat.le_trans (Nat.le_trans (Nat.le_trans (Nat.le_trans (Nat.le_trans (Nat.le_trans (Nat.le_trans (Nat.le_trans (Nat.le_trans (Nat.le_trans (Nat.le_trans (Nat.le_trans (Nat.le_trans (Nat.le_trans (Nat.le_trans (Nat.le_trans (Nat.le_trans (Nat.le_trans (Nat.le_trans (Nat.le_trans (Nat.le_trans (Nat.le_trans (Nat.le_trans (Nat.le_trans (Nat.le_trans (Nat.le_trans (Nat.le_trans (Nat.le_trans (Nat.le_trans (Nat.le_trans (Nat.le_trans (Nat.le_trans (Nat.le_trans (Nat.le_trans (Nat.le_trans (Nat.le_trans (Nat.le_trans (Nat.le_trans (Nat.le_trans (Nat.le_trans (Nat.le_trans (Nat.le_trans (Nat.le_trans (Nat.le_trans (Nat.le_trans K7.1 K15.1) K23.1) K31.1) K257.1) K267.1) K273.1) K276.1) K279.1) K282.1) K285.1) K288.1) K291.1) K294.1) K297.1) K300.1) K303.1) K306.1) K309.1) K312.1) K315.1) K318.1) K321.1) K324.1) K327.1) K330.1) K333.1) K336.1) K339.1) K342.1) K345.1) K348.1) K351.1) K354.1) K357.1) K360.1) K363.1) K366.1) K369.1) K372.1) K375.1) K378.1) K381.1) K384.1) K387.1) K390.1)) g401
      have nb404 : ¬ B28 a399 := fun q => absurd (en395.2 _ q) (Nat.not_lt.mpr g401)
      exact W.areturn X d_m5_669 rfl rfl rfl rfl (by decide) (by decide) ⟨_, rfl, ⟨a256, a399, rfl, (Keep.trans (Keep.trans (Keep.trans (Keep.trans (Keep.trans (Keep.trans (Keep.trans (Keep.trans (Keep.trans (Keep.trans (Keep.trans (Keep.trans (Keep.trans (Keep.trans (Keep.trans (Keep.trans (Keep.trans (Keep.trans (Keep.trans (Keep.trans (Keep.trans (Keep.trans (Keep.trans (Keep.trans (Keep.trans (Keep.trans (Keep.trans (Keep.trans (Keep.trans (Keep.trans (Keep.trans (Keep.trans (Keep.trans (Keep.trans (Keep.trans (Keep.trans (Keep.trans (Keep.trans (Keep.trans (Keep.trans (Keep.trans (Keep.trans (Keep.trans (Keep.trans (Keep.trans (Keep.trans (Keep.trans (Keep.refl h []) K7 all0) K15 all0) K23 all0) K31 all0) K257 all0) K267 all0) K273 (allS (Or.inr (Nat.le_trans (Nat.le_trans (Nat.le_trans (Nat.le_trans (Nat.le_trans K7.1 K15.1) K23.1) K31.1) K257.1) g268)) all0)) K276 (allS (Or.inr (Nat.le_trans (Nat.le_trans (Nat.le_trans (Nat.le_trans (Nat.le_trans K7.1 K15.1) K23.1) K31.1) K257.1) g268)) all0)) K279 (allS (Or.inr (Nat.le_trans (Nat.le_trans (Nat.le_trans (Nat.le_trans (Nat.le_trans K7.1 K15.1) K23.1) K31.1) K257.1) g268)) all0)) K282 (allS (Or.inr (Nat.le_trans (Nat.le_trans (Nat.le_trans (Nat.le_trans (Nat.le_trans K7.1 K15.1) K23.1) K31.1) K257.1) g268)) all0)) K285 (allS (Or.inr (Nat.le_trans (Nat.le_trans (Nat.le_trans (Nat.le_trans (Nat.le_trans K7.1 K15.1) K23.1) K31.1) K257.1) g268)) all0)) K288 (allS (Or.inr (Nat.le_trans (Nat.le_trans (Nat.le_trans (Nat.le_trans (Nat.le_trans K7.1 K15.1) K23.1) K31.1) K257.1) g268)) all0)) K291 (allS (Or.inr (Nat.le_trans (Nat.le_trans (Nat.le_trans (Nat.le_trans (Nat.le_trans K7.1 K15.1) K23.1) K31.1) K257.1) g268)) all0)) K294 (allS (Or.inr (Nat.le_trans (Nat.le_trans (Nat.le_trans (Nat.le_trans (Nat.le_trans K7.1 K15.1) K23.1) K31.1) K257.1) g268)) all0)) K297 (allS (Or.inr (Nat.le_trans (Nat.le_trans (Nat.le_trans (Nat.le_trans (Nat.le_trans K7.1 K15.1) K23.1) K31.1) K257.1) g268)) all0)) K300 (allS (Or.inr (Nat.le_trans (Nat.le_trans (Nat.le_trans (Nat.le_trans (Nat.le_trans K7.1 K15.1) K23.1) K31.1) K257.1) g268)) all0)) K303 (allS (Or.inr (Nat.le_trans (Nat.le_trans (Nat.le_trans (Nat.le_trans (Nat.le_trans K7.1 K15.1) K23.1) K31.1) K257.1) g268)) all0)) K306 (allS (Or.inr (Nat.le_trans (Nat.le_trans (Nat.le_trans (Nat.le_trans (Nat.le_trans K7.1 K15.1) K23.1) K31.1) K257.1) g268)) all0)) K309 (allS (Or.inr (Nat.le_trans (Nat.le_trans (Nat.le_trans (Nat.le_trans (Nat.le_trans K7.1 K15.1) K23.1) K31.1) K257.1) g268)) all0)) K312 (allS (Or.inr (Nat.le_trans (Nat.le_trans (Nat.le_trans (Nat.le_trans (Nat.le_trans K7.1 K15.1) K23.1) K31.1) K257.1) g268)) all0)) K315 (allS (Or.inr (Nat.le_trans (Nat.le_trans (Nat.le_trans (Nat.le_trans (Nat.le_trans K7.1 K15.1) K23.1) K31.1) K257.1) g268)) all0)) K318 (allS (Or.inr (Nat.le_trans (Nat.le_trans (Nat.le_trans (Nat.le_trans (Nat.le_trans K7.1 K15.1) K23.1) K31.1) K257.1) g268)) all0)) K321 (allS (Or.inr (Nat.le_trans (Nat.le_trans (Nat.le_trans (Nat.le_trans (Nat.le_trans K7.1 K15.1) K23.1) K31.1) K257.1) g268)) all0)) K324 (allS (Or.inr (Nat.le_trans (Nat.le_trans (Nat.le_trans (Nat.le_trans (Nat.le_trans K7.1 K15.1) K23.1) K31.1) K257.1) g268)) all0)) K327 (allS (Or.inr (Nat.le_trans (Nat.le_trans (Nat.le_trans (Nat.le_trans (Nat.le_trans K7.1 K15.1) K23.1) K31.1) K257.1) g268)) all0)) K330 (allS (Or.inr (Nat.le_trans (Nat.le_trans (Nat.le_trans (Nat.le_trans (Nat.le_trans K7.1 K15.1) K23.1) K31.1) K257.1) g268)) all0)) K333 (allS (Or.inr (Nat.le_trans (Nat.le_trans (Nat.le_trans (Nat.le_trans (Nat.le_trans K7.1 K15.1) K23.1) K31.1) K257.1) g268)) all0)) K336 (allS (Or.inr (Nat.le_trans (Nat.le_trans (Nat.le_trans (Nat.le_trans (Nat.le_trans K7.1 K15.1) K23.1) K31.1) K257.1) g268)) all0)) K339 (allS (Or.inr (Nat.le_trans (Nat.le_trans (Nat.le_trans (Nat.le_trans (Nat.le_trans K7.1 K15.1) K23.1) K31.1) K257.1) g268)) all0)) K342 (allS (Or.inr (Nat.le_trans (Nat.le_trans (Nat.le_trans (Nat.le_trans (Nat.le_trans K7.1 K15.1) K23.1) K31.1) K257.1) g268)) all0)) K345 (allS (Or.inr (Nat.le_trans (Nat.le_trans (Nat.le_trans (Nat.le_trans (Nat.le_trans K7.1 K15.1) K23.1) K31.1) K257.1) g268)) all0)) K348 (allS (Or.inr (Nat.le_trans (Nat.le_trans (Nat.le_trans (Nat.le_trans (Nat.le_trans K7.1 K15.1) K23.1) K31.1) K257.1) g268)) all0)) K351 (allS (Or.inr (Nat.le_trans (Nat.le_trans (Nat.le_trans (Nat.le_trans (Nat.le_trans K7.1 K15.1) K23.1) K31.1) K257.1) g268)) all0)) K354 (allS (Or.inr (Nat.le_trans (Nat.le_trans (Nat.le_trans (Nat.le_trans (Nat.le_trans K7.1 K15.1) K23.1) K31.1) K257.1) g268)) all0)) K357 (allS (Or.inr (Nat.le_trans (Nat.le_trans (Nat.le_trans (Nat.le_trans (Nat.le_trans K7.1 K15.1) K23.1) K31.1) K257.1) g268)) all0)) K360 (allS (Or.inr (Nat.le_trans (Nat.le_trans (Nat.le_trans (Nat.le_trans (Nat.le_trans K7.1 K15.1) K23.1) K31.1) K257.1) g268)) all0)) K363 (allS (Or.inr (Nat.le_trans (Nat.le_trans (Nat.le_trans (Nat.le_trans (Nat.le_trans K7.1 K15.1) K23.1) K31.1) K257.1) g268)) all0)) K366 (allS (Or.inr (Nat.le_trans (Nat.le_trans (Nat.le_trans (Nat.le_trans (Nat.le_trans K7.1 K15.1) K23.1) K31.1) K257.1) g268)) all0)) K369 (allS (Or.inr (Nat.le_trans (Nat.le_trans (Nat.le_trans (Nat.le_trans (Nat.le_trans K7.1 K15.1) K23.1) K31.1) K257.1) g268)) all0)) K372 (allS (Or.inr (Nat.le_trans (Nat.le_trans (Nat.le_trans (Nat.le_trans (Nat.le_trans K7.1 K15.1) K23.1) K31.1) K257.1) g268)) all0)) K375 (allS (Or.inr (Nat.le_trans (Nat.le_trans (Nat.le_trans (Nat.le_trans (Nat.le_trans K7.1 K15.1) K23.1) K31.1) K257.1) g268)) all0)) K378 (allS (Or.inr (Nat.le_trans (Nat.le_trans (Nat.le_trans (Nat.le_trans (Nat.le_trans K7.1 K15.1) K23.1) K31.1) K257.1) g268)) all0)) K381 (allS (Or.inr (Nat.le_trans (Nat.le_trans (Nat.le_trans (Nat.le_trans (Nat.le_trans K7.1 K15.1) K23.1) K31.1) K257.1) g268)) all0)) K384 (allS (Or.inr (Nat.le_trans (Nat.le_trans (Nat.le_trans (Nat.le_trans (Nat.le_trans K7.1 K15.1) K23.1) K31.1) K257.1) g268)) all0)) K387 (allS (Or.inr (Nat.le_trans (Nat.le_trans (Nat.le_trans (Nat.le_trans (Nat.le_trans K7.1 K15.1) K23.1) K31.1) K257.1) g268)) all0)) K390 (allS (Or.inr (Nat.le_trans (Nat.le_trans (Nat.le_trans (Nat.le_trans (Nat.le_trans K7.1 K15.1) K23.1) K31.1) K257.1) g268)) all0)) K400 (allS (Or.inr (Nat.le_trans (Nat.le_trans (Nat.le_trans (Nat.le_trans K7.1 K15.1) K23.1) K31.1) g258)) all0)), (Nat.le_trans (Nat.le_trans (Nat.le_trans (Nat.le_trans K7.1 K15.1) K23.1) K31.1) g258), (Nat.le_trans (Nat.le_trans (Nat.le_trans (Nat.le_trans (Nat.le_trans (Nat.le_trans (Nat.le_trans (Nat.le_trans (Nat.le_trans (Nat.le_trans (Nat.le_trans (Nat.le_trans (Nat.le_trans (Nat.le_trans (Nat.le_trans (Nat.le_trans (Nat.le_trans (Nat.le_trans (Nat.le_trans (Nat.le_trans (Nat.le_trans (Nat.le_trans (Nat.le_trans (Nat.le_trans (Nat.le_trans (Nat.le_trans (Nat.le_trans (Nat.le_trans (Nat.le_trans (Nat.le_trans (Nat.le_trans (Nat.le_trans (Nat.le_trans (Nat.le_trans (Nat.le_trans (Nat.le_trans (Nat.le_trans (Nat.le_trans (Nat.le_trans (Nat.le_trans (Nat.le_trans (Nat.le_trans (Nat.le_trans (Nat.le_trans (Nat.le_trans (Nat.le_trans K7.1 K15.1) K23.1) K31.1) K257.1) K267.1) K273.1) K276.1) K279.1) K282.1) K285.1) K288.1) K291.1) K294.1) K297.1) K300.1) K303.1) K306.1) K309.1) K312.1) K315.1) K318.1) K321.1) K324.1) K327.1) K330.1) K333.1) K336.1) K339.1) K342.1) K345.1) K348.1) K351.1) K354.1) K357.1) K360.1) K363.1) K366.1) K369.1) K372.1) K375.1) K378.1) K381.1) K384.1) K387.1) K390.1) g401), (strc F402 (by rw [F8, F16, F24, F32, sigL, if_neg hi0, if_pos hi1]; rfl))⟩⟩
    · skip
      refine W.icT (pc' := 670) X d_m5_421 (XT.ii_ne_t hi1) (by decide) (by decide) ?_
      refine W.new (pc' := 673) (k' := 9) (n' := 276) X (w50 G) (w19 G) (w18 G) d_m5_670 rfl (by decide) (by decide) (by decide) (by decide) fun T h405 a406 X K407 g408 g409 nb410 E411 D412 => ?_
      have F413 : Fld Z h405 a406 "java/lang/String" "value" "[B" .null := D412 (Or.inr (w21 G)) (ty := (.array .byte)) (by decide)
      have F414 : Fld Z h405 a406 "java/lang/String" "coder" "B" (.int (0 : Int32)) := D412 (Or.inr (w22 G)) (ty := .byte) (by decide)
      refine W.dup (pc' := 674) X d_m5_673 rfl rfl ?_
      refine W.bipush (pc' := 676) X (32 : Int32) d_m5_674 (by decide) rfl ?_
      refine W.newA (aty := .char) (pc' := 678) (k' := 10) (n' := 308) (cap := 32) X (w51 G) d_m5_676 (by decide) (by decide) (by decide) rfl (by decide) (by decide) (by decide) (by decide) fun T h415 a416 X K417 g418 g419 nb420 A421 => ?_
      have A421 : Ar Z h415 a416 .char [(.int (0 : Int32)), (.int (0 : Int32)), (.int (0 : Int32)), (.int (0 : Int32)), (.int (0 : Int32)), (.int (0 : Int32)), (.int (0 : Int32)), (.int (0 : Int32)), (.int (0 : Int32)), (.int (0 : Int32)), (.int (0 : Int32)), (.int (0 : Int32)), (.int (0 : Int32)), (.int (0 : Int32)), (.int (0 : Int32)), (.int (0 : Int32)), (.int (0 : Int32)), (.int (0 : Int32)), (.int (0 : Int32)), (.int (0 : Int32)), (.int (0 : Int32)), (.int (0 : Int32)), (.int (0 : Int32)), (.int (0 : Int32)), (.int (0 : Int32)), (.int (0 : Int32)), (.int (0 : Int32)), (.int (0 : Int32)), (.int (0 : Int32)), (.int (0 : Int32)), (.int (0 : Int32)), (.int (0 : Int32))] := A421
      refine W.dup (pc' := 679) X d_m5_678 rfl rfl ?_
      refine W.iconst (pc' := 680) X (0 : Int32) d_m5_679 (by decide) rfl ?_
      refine W.iload (pc' := 682) X d_m5_680 rfl rfl ?_
      refine W.castore (pc' := 683) (i := 0) X A421 (by decide) rfl (ltb rfl) (hexc_nar F8) g419 nb420 d_m5_682 rfl fun T h422 X K423 A424 => ?_
      have A424 : Ar Z h422 a416 .char [(.int e6), (.int (0 : Int32)), (.int (0 : Int32)), (.int (0 : Int32)), (.int (0 : Int32)), (.int (0 : Int32)), (.int (0 : Int32)), (.int (0 : Int32)), (.int (0 : Int32)), (.int (0 : Int32)), (.int (0 : Int32)), (.int (0 : Int32)), (.int (0 : Int32)), (.int (0 : Int32)), (.int (0 : Int32)), (.int (0 : Int32)), (.int (0 : Int32)), (.int (0 : Int32)), (.int (0 : Int32)), (.int (0 : Int32)), (.int (0 : Int32)), (.int (0 : Int32)), (.int (0 : Int32)), (.int (0 : Int32)), (.int (0 : Int32)), (.int (0 : Int32)), (.int (0 : Int32)), (.int (0 : Int32)), (.int (0 : Int32)), (.int (0 : Int32)), (.int (0 : Int32)), (.int (0 : Int32))] := A424
      refine W.dup (pc' := 684) X d_m5_683 rfl rfl ?_
      refine W.iconst (pc' := 685) X (1 : Int32) d_m5_684 (by decide) rfl ?_
      refine W.iload (pc' := 687) X d_m5_685 rfl rfl ?_
      refine W.castore (pc' := 688) (i := 1) X A424 (by decide) rfl (ltb rfl) (hexc_nar F32) g419 nb420 d_m5_687 rfl fun T h425 X K426 A427 => ?_
      have A427 : Ar Z h425 a416 .char [(.int e6), (.int e30), (.int (0 : Int32)), (.int (0 : Int32)), (.int (0 : Int32)), (.int (0 : Int32)), (.int (0 : Int32)), (.int (0 : Int32)), (.int (0 : Int32)), (.int (0 : Int32)), (.int (0 : Int32)), (.int (0 : Int32)), (.int (0 : Int32)), (.int (0 : Int32)), (.int (0 : Int32)), (.int (0 : Int32)), (.int (0 : Int32)), (.int (0 : Int32)), (.int (0 : Int32)), (.int (0 : Int32)), (.int (0 : Int32)), (.int (0 : Int32)), (.int (0 : Int32)), (.int (0 : Int32)), (.int (0 : Int32)), (.int (0 : Int32)), (.int (0 : Int32)), (.int (0 : Int32)), (.int (0 : Int32)), (.int (0 : Int32)), (.int (0 : Int32)), (.int (0 : Int32))] := A427
      refine W.dup (pc' := 689) X d_m5_688 rfl rfl ?_
      refine W.iconst (pc' := 690) X (2 : Int32) d_m5_689 (by decide) rfl ?_
      refine W.iload (pc' := 692) X d_m5_690 rfl rfl ?_
      refine W.castore (pc' := 693) (i := 2) X A427 (by decide) rfl (ltb rfl) (hexc_nar F32) g419 nb420 d_m5_692 rfl fun T h428 X K429 A430 => ?_
      have A430 : Ar Z h428 a416 .char [(.int e6), (.int e30), (.int e30), (.int (0 : Int32)), (.int (0 : Int32)), (.int (0 : Int32)), (.int (0 : Int32)), (.int (0 : Int32)), (.int (0 : Int32)), (.int (0 : Int32)), (.int (0 : Int32)), (.int (0 : Int32)), (.int (0 : Int32)), (.int (0 : Int32)), (.int (0 : Int32)), (.int (0 : Int32)), (.int (0 : Int32)), (.int (0 : Int32)), (.int (0 : Int32)), (.int (0 : Int32)), (.int (0 : Int32)), (.int (0 : Int32)), (.int (0 : Int32)), (.int (0 : Int32)), (.int (0 : Int32)), (.int (0 : Int32)), (.int (0 : Int32)), (.int (0 : Int32)), (.int (0 : Int32)), (.int (0 : Int32)), (.int (0 : Int32)), (.int (0 : Int32))] := A430
      refine W.dup (pc' := 694) X d_m5_693 rfl rfl ?_
      refine W.iconst (pc' := 695) X (3 : Int32) d_m5_694 (by decide) rfl ?_
      refine W.iload (pc' := 697) X d_m5_695 rfl rfl ?_
      refine W.castore (pc' := 698) (i := 3) X A430 (by decide) rfl (ltb rfl) (hexc_nar F32) g419 nb420 d_m5_697 rfl fun T h431 X K432 A433 => ?_
      have A433 : Ar Z h431 a416 .char [(.int e6), (.int e30), (.int e30), (.int e30), (.int (0 : Int32)), (.int (0 : Int32)), (.int (0 : Int32)), (.int (0 : Int32)), (.int (0 : Int32)), (.int (0 : Int32)), (.int (0 : Int32)), (.int (0 : Int32)), (.int (0 : Int32)), (.int (0 : Int32)), (.int (0 : Int32)), (.int (0 : Int32)), (.int (0 : Int32)), (.int (0 : Int32)), (.int (0 : Int32)), (.int (0 : Int32)), (.int (0 : Int32)), (.int (0 : Int32)), (.int (0 : Int32)), (.int (0 : Int32)), (.int (0 : Int32)), (.int (0 : Int32)), (.int (0 : Int32)), (.int (0 : Int32)), (.int (0 : Int32)), (.int (0 : Int32)), (.int (0 : Int32)), (.int (0 : Int32))] := A433
      refine W.dup (pc' := 699) X d_m5_698 rfl rfl ?_
      refine W.iconst (pc' := 700) X (4 : Int32) d_m5_699 (by decide) rfl ?_
      refine W.iload (pc' := 702) X d_m5_700 rfl rfl ?_
      refine W.castore (pc' := 703) (i := 4) X A433 (by decide) rfl (ltb rfl) (hexc_nar F32) g419 nb420 d_m5_702 rfl fun T h434 X K435 A436 => ?_
      have A436 : Ar Z h434 a416 .char [(.int e6), (.int e30), (.int e30), (.int e30), (.int e30), (.int (0 : Int32)), (.int (0 : Int32)), (.int (0 : Int32)), (.int (0 : Int32)), (.int (0 : Int32)), (.int (0 : Int32)), (.int (0 : Int32)), (.int (0 : Int32)), (.int (0 : Int32)), (.int (0 : Int32)), (.int (0 : Int32)), (.int (0 : Int32)), (.int (0 : Int32)), (.int (0 : Int32)), (.int (0 : Int32)), (.int (0 : Int32)), (.int (0 : Int32)), (.int (0 : Int32)), (.int (0 : Int32)), (.int (0 : Int32)), (.int (0 : Int32)), (.int (0 : Int32)), (.int (0 : Int32)), (.int (0 : Int32)), (.int (0 : Int32)), (.int (0 : Int32)), (.int (0 : Int32))] := A436
      refine W.dup (pc' := 704) X d_m5_703 rfl rfl ?_
      refine W.iconst (pc' := 705) X (5 : Int32) d_m5_704 (by decide) rfl ?_
      refine W.iload (pc' := 707) X d_m5_705 rfl rfl ?_
      refine W.castore (pc' := 708) (i := 5) X A436 (by decide) rfl (ltb rfl) (hexc_nar F32) g419 nb420 d_m5_707 rfl fun T h437 X K438 A439 => ?_
      have A439 : Ar Z h437 a416 .char [(.int e6), (.int e30), (.int e30), (.int e30), (.int e30), (.int e30), (.int (0 : Int32)), (.int (0 : Int32)), (.int (0 : Int32)), (.int (0 : Int32)), (.int (0 : Int32)), (.int (0 : Int32)), (.int (0 : Int32)), (.int (0 : Int32)), (.int (0 : Int32)), (.int (0 : Int32)), (.int (0 : Int32)), (.int (0 : Int32)), (.int (0 : Int32)), (.int (0 : Int32)), (.int (0 : Int32)), (.int (0 : Int32)), (.int (0 : Int32)), (.int (0 : Int32)), (.int (0 : Int32)), (.int (0 : Int32)), (.int (0 : Int32)), (.int (0 : Int32)), (.int (0 : Int32)), (.int (0 : Int32)), (.int (0 : Int32)), (.int (0 : Int32))] := A439
      refine W.dup (pc' := 709) X d_m5_708 rfl rfl ?_
      refine W.bipush (pc' := 711) X (6 : Int32) d_m5_709 (by decide) rfl ?_
      refine W.iload (pc' := 713) X d_m5_711 rfl rfl ?_
      refine W.castore (pc' := 714) (i := 6) X A439 (by decide) rfl (ltb rfl) (hexc_nar F32) g419 nb420 d_m5_713 rfl fun T h440 X K441 A442 => ?_
      have A442 : Ar Z h440 a416 .char [(.int e6), (.int e30), (.int e30), (.int e30), (.int e30), (.int e30), (.int e30), (.int (0 : Int32)), (.int (0 : Int32)), (.int (0 : Int32)), (.int (0 : Int32)), (.int (0 : Int32)), (.int (0 : Int32)), (.int (0 : Int32)), (.int (0 : Int32)), (.int (0 : Int32)), (.int (0 : Int32)), (.int (0 : Int32)), (.int (0 : Int32)), (.int (0 : Int32)), (.int (0 : Int32)), (.int (0 : Int32)), (.int (0 : Int32)), (.int (0 : Int32)), (.int (0 : Int32)), (.int (0 : Int32)), (.int (0 : Int32)), (.int (0 : Int32)), (.int (0 : Int32)), (.int (0 : Int32)), (.int (0 : Int32)), (.int (0 : Int32))] := A442
      refine W.dup (pc' := 715) X d_m5_714 rfl rfl ?_
      refine W.bipush (pc' := 717) X (7 : Int32) d_m5_715 (by decide) rfl ?_
      refine W.iload (pc' := 719) X d_m5_717 rfl rfl ?_
      refine W.castore (pc' := 720) (i := 7) X A442 (by decide) rfl (ltb rfl) (hexc_nar F32) g419 nb420 d_m5_719 rfl fun T h443 X K444 A445 => ?_
      have A445 : Ar Z h443 a416 .char [(.int e6), (.int e30), (.int e30), (.int e30), (.int e30), (.int e30), (.int e30), (.int e30), (.int (0 : Int32)), (.int (0 : Int32)), (.int (0 : Int32)), (.int (0 : Int32)), (.int (0 : Int32)), (.int (0 : Int32)), (.int (0 : Int32)), (.int (0 : Int32)), (.int (0 : Int32)), (.int (0 : Int32)), (.int (0 : Int32)), (.int (0 : Int32)), (.int (0 : Int32)), (.int (0 : Int32)), (.int (0 : Int32)), (.int (0 : Int32)), (.int (0 : Int32)), (.int (0 : Int32)), (.int (0 : Int32)), (.int (0 : Int32)), (.int (0 : Int32)), (.int (0 : Int32)), (.int (0 : Int32)), (.int (0 : Int32))] := A445
      refine W.dup (pc' := 721) X d_m5_720 rfl rfl ?_
      refine W.bipush (pc' := 723) X (8 : Int32) d_m5_721 (by decide) rfl ?_
      refine W.iload (pc' := 725) X d_m5_723 rfl rfl ?_
      refine W.castore (pc' := 726) (i := 8) X A445 (by decide) rfl (ltb rfl) (hexc_nar F32) g419 nb420 d_m5_725 rfl fun T h446 X K447 A448 => ?_
      have A448 : Ar Z h446 a416 .char [(.int e6), (.int e30), (.int e30), (.int e30), (.int e30), (.int e30), (.int e30), (.int e30), (.int e30), (.int (0 : Int32)), (.int (0 : Int32)), (.int (0 : Int32)), (.int (0 : Int32)), (.int (0 : Int32)), (.int (0 : Int32)), (.int (0 : Int32)), (.int (0 : Int32)), (.int (0 : Int32)), (.int (0 : Int32)), (.int (0 : Int32)), (.int (0 : Int32)), (.int (0 : Int32)), (.int (0 : Int32)), (.int (0 : Int32)), (.int (0 : Int32)), (.int (0 : Int32)), (.int (0 : Int32)), (.int (0 : Int32)), (.int (0 : Int32)), (.int (0 : Int32)), (.int (0 : Int32)), (.int (0 : Int32))] := A448
      refine W.dup (pc' := 727) X d_m5_726 rfl rfl ?_
      refine W.bipush (pc' := 729) X (9 : Int32) d_m5_727 (by decide) rfl ?_
      refine W.iload (pc' := 731) X d_m5_729 rfl rfl ?_
      refine W.castore (pc' := 732) (i := 9) X A448 (by decide) rfl (ltb rfl) (hexc_nar F32) g419 nb420 d_m5_731 rfl fun T h449 X K450 A451 => ?_
      have A451 : Ar Z h449 a416 .char [(.int e6), (.int e30), (.int e30), (.int e30), (.int e30), (.int e30), (.int e30), (.int e30), (.int e30), (.int e30), (.int (0 : Int32)), (.int (0 : Int32)), (.int (0 : Int32)), (.int (0 : Int32)), (.int (0 : Int32)), (.int (0 : Int32)), (.int (0 : Int32)), (.int (0 : Int32)), (.int (0 : Int32)), (.int (0 : Int32)), (.int (0 : Int32)), (.int (0 : Int32)), (.int (0 : Int32)), (.int (0 : Int32)), (.int (0 : Int32)), (.int (0 : Int32)), (.int (0 : Int32)), (.int (0 : Int32)), (.int (0 : Int32)), (.int (0 : Int32)), (.int (0 : Int32)), (.int (0 : Int32))] := A451
      refine W.dup (pc' := 733) X d_m5_732 rfl rfl ?_
      refine W.bipush (pc' := 735) X (10 : Int32) d_m5_733 (by decide) rfl ?_
      refine W.iload (pc' := 737) X d_m5_735 rfl rfl ?_
      refine W.castore (pc' := 738) (i := 10) X A451 (by decide) rfl (ltb rfl) (hexc_nar F32) g419 nb420 d_m5_737 rfl fun T h452 X K453 A454 => ?_
      have A454 : Ar Z h452 a416 .char [(.int e6), (.int e30), (.int e30), (.int e30), (.int e30), (.int e30), (.int e30), (.int e30), (.int e30), (.int e30), (.int e30), (.int (0 : Int32)), (.int (0 : Int32)), (.int (0 : Int32)), (.int (0 : Int32)), (.int (0 : Int32)), (.int (0 : Int32)), (.int (0 : Int32)), (.int (0 : Int32)), (.int (0 : Int32)), (.int (0 : Int32)), (.int (0 : Int32)), (.int (0 : Int32)), (.int (0 : Int32)), (.int (0 : Int32)), (.int (0 : Int32)), (.int (0 : Int32)), (.int (0 : Int32)), (.int (0 : Int32)), (.int (0 : Int32)), (.int (0 : Int32)), (.int (0 : Int32))] := A454
      refine W.dup (pc' := 739) X d_m5_738 rfl rfl ?_
      refine W.bipush (pc' := 741) X (11 : Int32) d_m5_739 (by decide) rfl ?_
      refine W.iload (pc' := 743) X d_m5_741 rfl rfl ?_
      refine W.castore (pc' := 744) (i := 11) X A454 (by decide) rfl (ltb rfl) (hexc_nar F32) g419 nb420 d_m5_743 rfl fun T h455 X K456 A457 => ?_
      have A457 : Ar Z h455 a416 .char [(.int e6), (.int e30), (.int e30), (.int e30), (.int e30), (.int e30), (.int e30), (.int e30), (.int e30), (.int e30), (.int e30), (.int e30), (.int (0 : Int32)), (.int (0 : Int32)), (.int (0 : Int32)), (.int (0 : Int32)), (.int (0 : Int32)), (.int (0 : Int32)), (.int (0 : Int32)), (.int (0 : Int32)), (.int (0 : Int32)), (.int (0 : Int32)), (.int (0 : Int32)), (.int (0 : Int32)), (.int (0 : Int32)), (.int (0 : Int32)), (.int (0 : Int32)), (.int (0 : Int32)), (.int (0 : Int32)), (.int (0 : Int32)), (.int (0 : Int32)), (.int (0 : Int32))] := A457
      refine W.dup (pc' := 745) X d_m5_744 rfl rfl ?_
      refine W.bipush (pc' := 747) X (12 : Int32) d_m5_745 (by decide) rfl ?_
      refine W.iload (pc' := 749) X d_m5_747 rfl rfl ?_
      refine W.castore (pc' := 750) (i := 12) X A457 (by decide) rfl (ltb rfl) (hexc_nar F32) g419 nb420 d_m5_749 rfl fun T h458 X K459 A460 => ?_
      have A460 : Ar Z h458 a416 .char [(.int e6), (.int e30), (.int e30), (.int e30), (.int e30), (.int e30), (.int e30), (.int e30), (.int e30), (.int e30), (.int e30), (.int e30), (.int e30), (.int (0 : Int32)), (.int (0 : Int32)), (.int (0 : Int32)), (.int (0 : Int32)), (.int (0 : Int32)), (.int (0 : Int32)), (.int (0 : Int32)), (.int (0 : Int32)), (.int (0 : Int32)), (.int (0 : Int32)), (.int (0 : Int32)), (.int (0 : Int32)), (.int (0 : Int32)), (.int (0 : Int32)), (.int (0 : Int32)), (.int (0 : Int32)), (.int (0 : Int32)), (.int (0 : Int32)), (.int (0 : Int32))] := A460
      refine W.dup (pc' := 751) X d_m5_750 rfl rfl ?_
      refine W.bipush (pc' := 753) X (13 : Int32) d_m5_751 (by decide) rfl ?_
      refine W.iload (pc' := 755) X d_m5_753 rfl rfl ?_
      refine W.castore (pc' := 756) (i := 13) X A460 (by decide) rfl (ltb rfl) (hexc_nar F32) g419 nb420 d_m5_755 rfl fun T h461 X K462 A463 => ?_
      have A463 : Ar Z h461 a416 .char [(.int e6), (.int e30), (.int e30), (.int e30), (.int e30), (.int e30), (.int e30), (.int e30), (.int e30), (.int e30), (.int e30), (.int e30), (.int e30), (.int e30), (.int (0 : Int32)), (.int (0 : Int32)), (.int (0 : Int32)), (.int (0 : Int32)), (.int (0 : Int32)), (.int (0 : Int32)), (.int (0 : Int32)), (.int (0 : Int32)), (.int (0 : Int32)), (.int (0 : Int32)), (.int (0 : Int32)), (.int (0 : Int32)), (.int (0 : Int32)), (.int (0 : Int32)), (.int (0 : Int32)), (.int (0 : Int32)), (.int (0 : Int32)), (.int (0 : Int32))] := A463
      refine W.dup (pc' := 757) X d_m5_756 rfl rfl ?_
      refine W.bipush (pc' := 759) X (14 : Int32) d_m5_757 (by decide) rfl ?_
      refine W.iload (pc' := 761) X d_m5_759 rfl rfl ?_
      refine W.castore (pc' := 762) (i := 14) X A463 (by decide) rfl (ltb rfl) (hexc_nar F32) g419 nb420 d_m5_761 rfl fun T h464 X K465 A466 => ?_
      have A466 : Ar Z h464 a416 .char [(.int e6), (.int e30), (.int e30), (.int e30), (.int e30), (.int e30), (.int e30), (.int e30), (.int e30), (.int e30), (.int e30), (.int e30), (.int e30), (.int e30), (.int e30), (.int (0 : Int32)), (.int (0 : Int32)), (.int (0 : Int32)), (.int (0 : Int32)), (.int (0 : Int32)), (.int (0 : Int32)), (.int (0 : Int32)), (.int (0 : Int32)), (.int (0 : Int32)), (.int (0 : Int32)), (.int (0 : Int32)), (.int (0 : Int32)), (.int (0 : Int32)), (.int (0 : Int32)), (.int (0 : Int32)), (.int (0 : Int32)), (.int (0 : Int32))] := A466
      refine W.dup (pc' := 763) X d_m5_762 rfl rfl ?_
      refine W.bipush (pc' := 765) X (15 : Int32) d_m5_763 (by decide) rfl ?_
      refine W.iload (pc' := 767) X d_m5_765 rfl rfl ?_
      refine W.castore (pc' := 768) (i := 15) X A466 (by decide) rfl (ltb rfl) (hexc_nar F32) g419 nb420 d_m5_767 rfl fun T h467 X K468 A469 => ?_
      have A469 : Ar Z h467 a416 .char [(.int e6), (.int e30), (.int e30), (.int e30), (.int e30), (.int e30), (.int e30), (.int e30), (.int e30), (.int e30), (.int e30), (.int e30), (.int e30), (.int e30), (.int e30), (.int e30), (.int (0 : Int32)), (.int (0 : Int32)), (.int (0 : Int32)), (.int (0 : Int32)), (.int (0 : Int32)), (.int (0 : Int32)), (.int (0 : Int32)), (.int (0 : Int32)), (.int (0 : Int32)), (.int (0 : Int32)), (.int (0 : Int32)), (.int (0 : Int32)), (.int (0 : Int32)), (.int (0 : Int32)), (.int (0 : Int32)), (.int (0 : Int32))] := A469
      refine W.dup (pc' := 769) X d_m5_768 rfl rfl ?_
      refine W.bipush (pc' := 771) X (16 : Int32) d_m5_769 (by decide) rfl ?_
      refine W.iload (pc' := 773) X d_m5_771 rfl rfl ?_
      refine W.castore (pc' := 774) (i := 16) X A469 (by decide) rfl (ltb rfl) (hexc_nar F16) g419 nb420 d_m5_773 rfl fun T h470 X K471 A472 => ?_
      have A472 : Ar Z h470 a416 .char [(.int e6), (.int e30), (.int e30), (.int e30), (.int e30), (.int e30), (.int e30), (.int e30), (.int e30), (.int e30), (.int e30), (.int e30), (.int e30), (.int e30), (.int e30), (.int e30), (.int e14), (.int (0 : Int32)), (.int (0 : Int32)), (.int (0 : Int32)), (.int (0 : Int32)), (.int (0 : Int32)), (.int (0 : Int32)), (.int (0 : Int32)), (.int (0 : Int32)), (.int (0 : Int32)), (.int (0 : Int32)), (.int (0 : Int32)), (.int (0 : Int32)), (.int (0 : Int32)), (.int (0 : Int32)), (.int (0 : Int32))] := A472
      refine W.dup (pc' := 775) X d_m5_774 rfl rfl ?_
      refine W.bipush (pc' := 777) X (17 : Int32) d_m5_775 (by decide) rfl ?_
      refine W.iload (pc' := 779) X d_m5_777 rfl rfl ?_
      refine W.castore (pc' := 780) (i := 17) X A472 (by decide) rfl (ltb rfl) (hexc_nar F32) g419 nb420 d_m5_779 rfl fun T h473 X K474 A475 => ?_
      have A475 : Ar Z h473 a416 .char [(.int e6), (.int e30), (.int e30), (.int e30), (.int e30), (.int e30), (.int e30), (.int e30), (.int e30), (.int e30), (.int e30), (.int e30), (.int e30), (.int e30), (.int e30), (.int e30), (.int e14), (.int e30), (.int (0 : Int32)), (.int (0 : Int32)), (.int (0 : Int32)), (.int (0 : Int32)), (.int (0 : Int32)), (.int (0 : Int32)), (.int (0 : Int32)), (.int (0 : Int32)), (.int (0 : Int32)), (.int (0 : Int32)), (.int (0 : Int32)), (.int (0 : Int32)), (.int (0 : Int32)), (.int (0 : Int32))] := A475
      refine W.dup (pc' := 781) X d_m5_780 rfl rfl ?_
      refine W.bipush (pc' := 783) X (18 : Int32) d_m5_781 (by decide) rfl ?_
      refine W.iload (pc' := 785) X d_m5_783 rfl rfl ?_
      refine W.castore (pc' := 786) (i := 18) X A475 (by decide) rfl (ltb rfl) (hexc_nar F32) g419 nb420 d_m5_785 rfl fun T h476 X K477 A478 => ?_
      have A478 : Ar Z h476 a416 .char [(.int e6), (.int e30), (.int e30), (.int e30), (.int e30), (.int e30), (.int e30), (.int e30), (.int e30), (.int e30), (.int e30), (.int e30), (.int e30), (.int e30), (.int e30), (.int e30), (.int e14), (.int e30), (.int e30), (.int (0 : Int32)), (.int (0 : Int32)), (.int (0 : Int32)), (.int (0 : Int32)), (.int (0 : Int32)), (.int (0 : Int32)), (.int (0 : Int32)), (.int (0 : Int32)), (.int (0 : Int32)), (.int (0 : Int32)), (.int (0 : Int32)), (.int (0 : Int32)), (.int (0 : Int32))] := A478
      refine W.dup (pc' := 787) X d_m5_786 rfl rfl ?_
      refine W.bipush (pc' := 789) X (19 : Int32) d_m5_787 (by decide) rfl ?_
      refine W.iload (pc' := 791) X d_m5_789 rfl rfl ?_
      refine W.castore (pc' := 792) (i := 19) X A478 (by decide) rfl (ltb rfl) (hexc_nar F32) g419 nb420 d_m5_791 rfl fun T h479 X K480 A481 => ?_
      have A481 : Ar Z h479 a416 .char [(.int e6), (.int e30), (.int e30), (.int e30), (.int e30), (.int e30), (.int e30), (.int e30), (.int e30), (.int e30), (.int e30), (.int e30), (.int e30), (.int e30), (.int e30), (.int e30), (.int e14), (.int e30), (.int e30), (.int e30), (.int (0 : Int32)), (.int (0 : Int32)), (.int (0 : Int32)), (.int (0 : Int32)), (.int (0 : Int32)), (.int (0 : Int32)), (.int (0 : Int32)), (.int (0 : Int32)), (.int (0 : Int32)), (.int (0 : Int32)), (.int (0 : Int32)), (.int (0 : Int32))] := A481
      refine W.dup (pc' := 793) X d_m5_792 rfl rfl ?_
      refine W.bipush (pc' := 795) X (20 : Int32) d_m5_793 (by decide) rfl ?_
      refine W.iload (pc' := 797) X d_m5_795 rfl rfl ?_
      refine W.castore (pc' := 798) (i := 20) X A481 (by decide) rfl (ltb rfl) (hexc_nar F32) g419 nb420 d_m5_797 rfl fun T h482 X K483 A484 => ?_
      have A484 : Ar Z h482 a416 .char [(.int e6), (.int e30), (.int e30), (.int e30), (.int e30), (.int e30), (.int e30), (.int e30), (.int e30), (.int e30), (.int e30), (.int e30), (.int e30), (.int e30), (.int e30), (.int e30), (.int e14), (.int e30), (.int e30), (.int e30), (.int e30), (.int (0 : Int32)), (.int (0 : Int32)), (.int (0 : Int32)), (.int (0 : Int32)), (.int (0 : Int32)), (.int (0 : Int32)), (.int (0 : Int32)), (.int (0 : Int32)), (.int (0 : Int32)), (.int (0 : Int32)), (.int (0 : Int32))] := A484
      refine W.dup (pc' := 799) X d_m5_798 rfl rfl ?_
      refine W.bipush (pc' := 801) X (21 : Int32) d_m5_799 (by decide) rfl ?_
      refine W.iload (pc' := 803) X d_m5_801 rfl rfl ?_
      refine W.castore (pc' := 804) (i := 21) X A484 (by decide) rfl (ltb rfl) (hexc_nar F32) g419 nb420 d_m5_803 rfl fun T h485 X K486 A487 => ?_
      have A487 : Ar Z h485 a416 .char [(.int e6), (.int e30), (.int e30), (.int e30), (.int e30), (.int e30), (.int e30), (.int e30), (.int e30), (.int e30), (.int e30), (.int e30), (.int e30), (.int e30), (.int e30), (.int e30), (.int e14), (.int e30), (.int e30), (.int e30), (.int e30), (.int e30), (.int (0 : Int32)), (.int (0 : Int32)), (.int (0 : Int32)), (.int (0 : Int32)), (.int (0 : Int32)), (.int (0 : Int32)), (.int (0 : Int32)), (.int (0 : Int32)), (.int (0 : Int32)), (.int (0 : Int32))] := A487
      refine W.dup (pc' := 805) X d_m5_804 rfl rfl ?_
      refine W.bipush (pc' := 807) X (22 : Int32) d_m5_805 (by decide) rfl ?_
      refine W.iload (pc' := 809) X d_m5_807 rfl rfl ?_
      refine W.castore (pc' := 810) (i := 22) X A487 (by decide) rfl (ltb rfl) (hexc_nar F32) g419 nb420 d_m5_809 rfl fun T h488 X K489 A490 => ?_
      have A490 : Ar Z h488 a416 .char [(.int e6), (.int e30), (.int e30), (.int e30), (.int e30), (.int e30), (.int e30), (.int e30), (.int e30), (.int e30), (.int e30), (.int e30), (.int e30), (.int e30), (.int e30), (.int e30), (.int e14), (.int e30), (.int e30), (.int e30), (.int e30), (.int e30), (.int e30), (.int (0 : Int32)), (.int (0 : Int32)), (.int (0 : Int32)), (.int (0 : Int32)), (.int (0 : Int32)), (.int (0 : Int32)), (.int (0 : Int32)), (.int (0 : Int32)), (.int (0 : Int32))] := A490
      refine W.dup (pc' := 811) X d_m5_810 rfl rfl ?_
      refine W.bipush (pc' := 813) X (23 : Int32) d_m5_811 (by decide) rfl ?_
      refine W.iload (pc' := 815) X d_m5_813 rfl rfl ?_
      refine W.castore (pc' := 816) (i := 23) X A490 (by decide) rfl (ltb rfl) (hexc_nar F32) g419 nb420 d_m5_815 rfl fun T h491 X K492 A493 => ?_
      have A493 : Ar Z h491 a416 .char [(.int e6), (.int e30), (.int e30), (.int e30), (.int e30), (.int e30), (.int e30), (.int e30), (.int e30), (.int e30), (.int e30), (.int e30), (.int e30), (.int e30), (.int e30), (.int e30), (.int e14), (.int e30), (.int e30), (.int e30), (.int e30), (.int e30), (.int e30), (.int e30), (.int (0 : Int32)), (.int (0 : Int32)), (.int (0 : Int32)), (.int (0 : Int32)), (.int (0 : Int32)), (.int (0 : Int32)), (.int (0 : Int32)), (.int (0 : Int32))] := A493
      refine W.dup (pc' := 817) X d_m5_816 rfl rfl ?_
      refine W.bipush (pc' := 819) X (24 : Int32) d_m5_817 (by decide) rfl ?_
      refine W.iload (pc' := 821) X d_m5_819 rfl rfl ?_
      refine W.castore (pc' := 822) (i := 24) X A493 (by decide) rfl (ltb rfl) (hexc_nar F32) g419 nb420 d_m5_821 rfl fun T h494 X K495 A496 => ?_
      have A496 : Ar Z h494 a416 .char [(.int e6), (.int e30), (.int e30), (.int e30), (.int e30), (.int e30), (.int e30), (.int e30), (.int e30), (.int e30), (.int e30), (.int e30), (.int e30), (.int e30), (.int e30), (.int e30), (.int e14), (.int e30), (.int e30), (.int e30), (.int e30), (.int e30), (.int e30), (.int e30), (.int e30), (.int (0 : Int32)), (.int (0 : Int32)), (.int (0 : Int32)), (.int (0 : Int32)), (.int (0 : Int32)), (.int (0 : Int32)), (.int (0 : Int32))] := A496
      refine W.dup (pc' := 823) X d_m5_822 rfl rfl ?_
      refine W.bipush (pc' := 825) X (25 : Int32) d_m5_823 (by decide) rfl ?_
      refine W.iload (pc' := 827) X d_m5_825 rfl rfl ?_
      refine W.castore (pc' := 828) (i := 25) X A496 (by decide) rfl (ltb rfl) (hexc_nar F32) g419 nb420 d_m5_827 rfl fun T h497 X K498 A499 => ?_
      have A499 : Ar Z h497 a416 .char [(.int e6), (.int e30), (.int e30), (.int e30), (.int e30), (.int e30), (.int e30), (.int e30), (.int e30), (.int e30), (.int e30), (.int e30), (.int e30), (.int e30), (.int e30), (.int e30), (.int e14), (.int e30), (.int e30), (.int e30), (.int e30), (.int e30), (.int e30), (.int e30), (.int e30), (.int e30), (.int (0 : Int32)), (.int (0 : Int32)), (.int (0 : Int32)), (.int (0 : Int32)), (.int (0 : Int32)), (.int (0 : Int32))] := A499
      refine W.dup (pc' := 829) X d_m5_828 rfl rfl ?_
      refine W.bipush (pc' := 831) X (26 : Int32) d_m5_829 (by decide) rfl ?_
      refine W.iload (pc' := 833) X d_m5_831 rfl rfl ?_
      refine W.castore (pc' := 834) (i := 26) X A499 (by decide) rfl (ltb rfl) (hexc_nar F32) g419 nb420 d_m5_833 rfl fun T h500 X K501 A502 => ?_
      have A502 : Ar Z h500 a416 .char [(.int e6), (.int e30), (.int e30), (.int e30), (.int e30), (.int e30), (.int e30), (.int e30), (.int e30), (.int e30), (.int e30), (.int e30), (.int e30), (.int e30), (.int e30), (.int e30), (.int e14), (.int e30), (.int e30), (.int e30), (.int e30), (.int e30), (.int e30), (.int e30), (.int e30), (.int e30), (.int e30), (.int (0 : Int32)), (.int (0 : Int32)), (.int (0 : Int32)), (.int (0 : Int32)), (.int (0 : Int32))] := A502
      refine W.dup (pc' := 835) X d_m5_834 rfl rfl ?_
      refine W.bipush (pc' := 837) X (27 : Int32) d_m5_835 (by decide) rfl ?_
      refine W.iload (pc' := 839) X d_m5_837 rfl rfl ?_
      refine W.castore (pc' := 840) (i := 27) X A502 (by decide) rfl (ltb rfl) (hexc_nar F32) g419 nb420 d_m5_839 rfl fun T h503 X K504 A505 => ?_
      have A505 : Ar Z h503 a416 .char [(.int e6), (.int e30), (.int e30), (.int e30), (.int e30), (.int e30), (.int e30), (.int e30), (.int e30), (.int e30), (.int e30), (.int e30), (.int e30), (.int e30), (.int e30), (.int e30), (.int e14), (.int e30), (.int e30), (.int e30), (.int e30), (.int e30), (.int e30), (.int e30), (.int e30), (.int e30), (.int e30), (.int e30), (.int (0 : Int32)), (.int (0 : Int32)), (.int (0 : Int32)), (.int (0 : Int32))] := A505
      refine W.dup (pc' := 841) X d_m5_840 rfl rfl ?_
      refine W.bipush (pc' := 843) X (28 : Int32) d_m5_841 (by decide) rfl ?_
      refine W.iload (pc' := 845) X d_m5_843 rfl rfl ?_
      refine W.castore (pc' := 846) (i := 28) X A505 (by decide) rfl (ltb rfl) (hexc_nar F32) g419 nb420 d_m5_845 rfl fun T h506 X K507 A508 => ?_
      have A508 : Ar Z h506 a416 .char [(.int e6), (.int e30), (.int e30), (.int e30), (.int e30), (.int e30), (.int e30), (.int e30), (.int e30), (.int e30), (.int e30), (.int e30), (.int e30), (.int e30), (.int e30), (.int e30), (.int e14), (.int e30), (.int e30), (.int e30), (.int e30), (.int e30), (.int e30), (.int e30), (.int e30), (.int e30), (.int e30), (.int e30), (.int e30), (.int (0 : Int32)), (.int (0 : Int32)), (.int (0 : Int32))] := A508
      refine W.dup (pc' := 847) X d_m5_846 rfl rfl ?_
      refine W.bipush (pc' := 849) X (29 : Int32) d_m5_847 (by decide) rfl ?_
      refine W.iload (pc' := 851) X d_m5_849 rfl rfl ?_
      refine W.castore (pc' := 852) (i := 29) X A508 (by decide) rfl (ltb rfl) (hexc_nar F32) g419 nb420 d_m5_851 rfl fun T h509 X K510 A511 => ?_
      have A511 : Ar Z h509 a416 .char [(.int e6), (.int e30), (.int e30), (.int e30), (.int e30), (.int e30), (.int e30), (.int e30), (.int e30), (.int e30), (.int e30), (.int e30), (.int e30), (.int e30), (.int e30), (.int e30), (.int e14), (.int e30), (.int e30), (.int e30), (.int e30), (.int e30), (.int e30), (.int e30), (.int e30), (.int e30), (.int e30), (.int e30), (.int e30), (.int e30), (.int (0 : Int32)), (.int (0 : Int32))] := A511
      refine W.dup (pc' := 853) X d_m5_852 rfl rfl ?_
      refine W.bipush (pc' := 855) X (30 : Int32) d_m5_853 (by decide) rfl ?_
      refine W.iload (pc' := 857) X d_m5_855 rfl rfl ?_
      refine W.castore (pc' := 858) (i := 30) X A511 (by decide) rfl (ltb rfl) (hexc_nar F32) g419 nb420 d_m5_857 rfl fun T h512 X K513 A514 => ?_
      have A514 : Ar Z h512 a416 .char [(.int e6), (.int e30), (.int e30), (.int e30), (.int e30), (.int e30), (.int e30), (.int e30), (.int e30), (.int e30), (.int e30), (.int e30), (.int e30), (.int e30), (.int e30), (.int e30), (.int e14), (.int e30), (.int e30), (.int e30), (.int e30), (.int e30), (.int e30), (.int e30), (.int e30), (.int e30), (.int e30), (.int e30), (.int e30), (.int e30), (.int e30), (.int (0 : Int32))] := A514
      refine W.dup (pc' := 859) X d_m5_858 rfl rfl ?_
      refine W.bipush (pc' := 861) X (31 : Int32) d_m5_859 (by decide) rfl ?_
      refine W.iload (pc' := 863) X d_m5_861 rfl rfl ?_
      refine W.castore (pc' := 864) (i := 31) X A514 (by decide) rfl (ltb rfl) (hexc_nar F24) g419 nb420 d_m5_863 rfl fun T h515 X K516 A517 => ?_
      have A517 : Ar Z h515 a416 .char [(.int e6), (.int e30), (.int e30), (.int e30), (.int e30), (.int e30), (.int e30), (.int e30), (.int e30), (.int e30), (.int e30), (.int e30), (.int e30), (.int e30), (.int e30), (.int e30), (.int e14), (.int e30), (.int e30), (.int e30), (.int e30), (.int e30), (.int e30), (.int e30), (.int e30), (.int e30), (.int e30), (.int e30), (.int e30), (.int e30), (.int e30), (.int e22)] := A517
      have F518 := (((((((((((((((((((((((((((((((((E411.keep K417).keep K423).keep K426).keep K429).keep K432).keep K435).keep K438).keep K441).keep K444).keep K447).keep K450).keep K453).keep K456).keep K459).keep K462).keep K465).keep K468).keep K471).keep K474).keep K477).keep K480).keep K483).keep K486).keep K489).keep K492).keep K495).keep K498).keep K501).keep K504).keep K507).keep K510).keep K513).keep K516)
      have F519 := (((((((((((((((((((((((((((((((((F413.keep K417 nin0).keep K423 (ninS (Nat.ne_of_lt (Nat.lt_of_lt_of_le E411.lt (Nat.le_trans (Nat.le_refl _) g418))) nin0)).keep K426 (ninS (Nat.ne_of_lt (Nat.lt_of_lt_of_le E411.lt (Nat.le_trans (Nat.le_refl _) g418))) nin0)).keep K429 (ninS (Nat.ne_of_lt (Nat.lt_of_lt_of_le E411.lt (Nat.le_trans (Nat.le_refl _) g418))) nin0)).keep K432 (ninS (Nat.ne_of_lt (Nat.lt_of_lt_of_le E411.lt (Nat.le_trans (Nat.le_refl _) g418))) nin0)).keep K435 (ninS (Nat.ne_of_lt (Nat.lt_of_lt_of_le E411.lt (Nat.le_trans (Nat.le_refl _) g418))) nin0)).keep K438 (ninS (Nat.ne_of_lt (Nat.lt_of_lt_of_le E411.lt (Nat.le_trans (Nat.le_refl _) g418))) nin0)).keep K441 (ninS (Nat.ne_of_lt (Nat.lt_of_lt_of_le E411.lt (Nat.le_trans (Nat.le_refl _) g418))) nin0)).keep K444 (ninS (Nat.ne_of_lt (Nat.lt_of_lt_of_le E411.lt (Nat.le_trans (Nat.le_refl _) g418))) nin0)).keep K447 (ninS (Nat.ne_of_lt (Nat.lt_of_lt_of_le E411.lt (Nat.le_trans (Nat.le_refl _) g418))) nin0)).keep K450 (ninS (Nat.ne_of_lt (Nat.lt_of_lt_of_le E411.lt (Nat.le_trans (Nat.le_refl _) g418))) nin0)).keep K453 (ninS (Nat.ne_of_lt (Nat.lt_of_lt_of_le E411.lt (Nat.le_trans (Nat.le_refl _) g418))) nin0)).keep K456 (ninS (Nat.ne_of_lt (Nat.lt_of_lt_of_le E411.lt (Nat.le_trans (Nat.le_refl _) g418))) nin0)).keep K459 (ninS (Nat.ne_of_lt (Nat.lt_of_lt_of_le E411.lt (Nat.le_trans (Nat.le_refl _) g418))) nin0)).keep K462 (ninS (Nat.ne_of_lt (Nat.lt_of_lt_of_le E411.lt (Nat.le_trans (Nat.le_refl _) g418))) nin0)).keep K465 (ninS (Nat.ne_of_lt (Nat.lt_of_lt_of_le E411.lt (Nat.le_trans (Nat.le_refl _) g418))) nin0)).keep K468 (ninS (Nat.ne_of_lt (Nat.lt_of_lt_of_le E411.lt (Nat.le_trans (Nat.le_refl _) g418))) nin0)).keep K471 (ninS (Nat.ne_of_lt (Nat.lt_of_lt_of_le E411.lt (Nat.le_trans (Nat.le_refl _) g418))) nin0)).keep K474 (ninS (Nat.ne_of_lt (Nat.lt_of_lt_of_le E411.lt (Nat.le_trans (Nat.le_refl _) g418))) nin0)).keep K477 (ninS (Nat.ne_of_lt (Nat.lt_of_lt_of_le E411.lt (Nat.le_trans (Nat.le_refl _) g418))) nin0)).keep K480 (ninS (Nat.ne_of_lt (Nat.lt_of_lt_of_le E411.lt (Nat.le_trans (Nat.le_refl _) g418))) nin0)).keep K483 (ninS (Nat.ne_of_lt (Nat.lt_of_lt_of_le E411.lt (Nat.le_trans (Nat.le_refl _) g418))) nin0)).keep K486 (ninS (Nat.ne_of_lt (Nat.lt_of_lt_of_le E411.lt (Nat.le_trans (Nat.le_refl _) g418))) nin0)).keep K489 (ninS (Nat.ne_of_lt (Nat.lt_of_lt_of_le E411.lt (Nat.le_trans (Nat.le_refl _) g418))) nin0)).keep K492 (ninS (Nat.ne_of_lt (Nat.lt_of_lt_of_le E411.lt (Nat.le_trans (Nat.le_refl _) g418))) nin0)).keep K495 (ninS (Nat.ne_of_lt (Nat.lt_of_lt_of_le E411.lt (Nat.le_trans (Nat.le_refl _) g418))) nin0)).keep K498 (ninS (Nat.ne_of_lt (Nat.lt_of_lt_of_le E411.lt (Nat.le_trans (Nat.le_refl _) g418))) nin0)).keep K501 (ninS (Nat.ne_of_lt (Nat.lt_of_lt_of_le E411.lt (Nat.le_trans (Nat.le_refl _) g418))) nin0)).keep K504 (ninS (Nat.ne_of_lt (Nat.lt_of_lt_of_le E411.lt (Nat.le_trans (Nat.le_refl _) g418))) nin0)).keep K507 (ninS (Nat.ne_of_lt (Nat.lt_of_lt_of_le E411.lt (Nat.le_trans (Nat.le_refl _) g418))) nin0)).keep K510 (ninS (Nat.ne_of_lt (Nat.lt_of_lt_of_le E411.lt (Nat.le_trans (Nat.le_refl _) g418))) nin0)).keep K513 (ninS (Nat.ne_of_lt (Nat.lt_of_lt_of_le E411.lt (Nat.le_trans (Nat.le_refl _) g418))) nin0)).keep K516 (ninS (Nat.ne_of_lt (Nat.lt_of_lt_of_le E411.lt (Nat.le_trans (Nat.le_refl _) g418))) nin0))
      have F520 := (((((((((((((((((((((((((((((((((F414.keep K417 nin0).keep K423 (ninS (Nat.ne_of_lt (Nat.lt_of_lt_of_le E411.lt (Nat.le_trans (Nat.le_refl _) g418))) nin0)).keep K426 (ninS (Nat.ne_of_lt (Nat.lt_of_lt_of_le E411.lt (Nat.le_trans (Nat.le_refl _) g418))) nin0)).keep K429 (ninS (Nat.ne_of_lt (Nat.lt_of_lt_of_le E411.lt (Nat.le_trans (Nat.le_refl _) g418))) nin0)).keep K432 (ninS (Nat.ne_of_lt (Nat.lt_of_lt_of_le E411.lt (Nat.le_trans (Nat.le_refl _) g418))) nin0)).keep K435 (ninS (Nat.ne_of_lt (Nat.lt_of_lt_of_le E411.lt (Nat.le_trans (Nat.le_refl _) g418))) nin0)).keep K438 (ninS (Nat.ne_of_lt (Nat.lt_of_lt_of_le E411.lt (Nat.le_trans (Nat.le_refl _) g418))) nin0)).keep K441 (ninS (Nat.ne_of_lt (Nat.lt_of_lt_of_le E411.lt (Nat.le_trans (Nat.le_refl _) g418))) nin0)).keep K444 (ninS (Nat.ne_of_lt (Nat.lt_of_lt_of_le E411.lt (Nat.le_trans (Nat.le_refl _) g418))) nin0)).keep K447 (ninS (Nat.ne_of_lt (Nat.lt_of_lt_of_le E411.lt (Nat.le_trans (Nat.le_refl _) g418))) nin0)).keep K450 (ninS (Nat.ne_of_lt (Nat.lt_of_lt_of_le E411.lt (Nat.le_trans (Nat.le_refl _) g418))) nin0)).keep K453 (ninS (Nat.ne_of_lt (Nat.lt_of_lt_of_le E411.lt (Nat.le_trans (Nat.le_refl _) g418))) nin0)).keep K456 (ninS (Nat.ne_of_lt (Nat.lt_of_lt_of_le E411.lt (Nat.le_trans (Nat.le_refl _) g418))) nin0)).keep K459 (ninS (Nat.ne_of_lt (Nat.lt_of_lt_of_le E411.lt (Nat.le_trans (Nat.le_refl _) g418))) nin0)).keep K462 (ninS (Nat.ne_of_lt (Nat.lt_of_lt_of_le E411.lt (Nat.le_trans (Nat.le_refl _) g418))) nin0)).keep K465 (ninS (Nat.ne_of_lt (Nat.lt_of_lt_of_le E411.lt (Nat.le_trans (Nat.le_refl _) g418))) nin0)).keep K468 (ninS (Nat.ne_of_lt (Nat.lt_of_lt_of_le E411.lt (Nat.le_trans (Nat.le_refl _) g418))) nin0)).keep K471 (ninS (Nat.ne_of_lt (Nat.lt_of_lt_of_le E411.lt (Nat.le_trans (Nat.le_refl _) g418))) nin0)).keep K474 (ninS (Nat.ne_of_lt (Nat.lt_of_lt_of_le E411.lt (Nat.le_trans (Nat.le_refl _) g418))) nin0)).keep K477 (ninS (Nat.ne_of_lt (Nat.lt_of_lt_of_le E411.lt (Nat.le_trans (Nat.le_refl _) g418))) nin0)).keep K480 (ninS (Nat.ne_of_lt (Nat.lt_of_lt_of_le E411.lt (Nat.le_trans (Nat.le_refl _) g418))) nin0)).keep K483 (ninS (Nat.ne_of_lt (Nat.lt_of_lt_of_le E411.lt (Nat.le_trans (Nat.le_refl _) g418))) nin0)).keep K486 (ninS (Nat.ne_of_lt (Nat.lt_of_lt_of_le E411.lt (Nat.le_trans (Nat.le_refl _) g418))) nin0)).keep K489 (ninS (Nat.ne_of_lt (Nat.lt_of_lt_of_le E411.lt (Nat.le_trans (Nat.le_refl _) g418))) nin0)).keep K492 (ninS (Nat.ne_of_lt (Nat.lt_of_lt_of_le E411.lt (Nat.le_trans (Nat.le_refl _) g418))) nin0)).keep K495 (ninS (Nat.ne_of_lt (Nat.lt_of_lt_of_le E411.lt (Nat.le_trans (Nat.le_refl _) g418))) nin0)).keep K498 (ninS (Nat.ne_of_lt (Nat.lt_of_lt_of_le E411.lt (Nat.le_trans (Nat.le_refl _) g418))) nin0)).keep K501 (ninS (Nat.ne_of_lt (Nat.lt_of_lt_of_le E411.lt (Nat.le_trans (Nat.le_refl _) g418))) nin0)).keep K504 (ninS (Nat.ne_of_lt (Nat.lt_of_lt_of_le E411.lt (Nat.le_trans (Nat.le_refl _) g418))) nin0)).keep K507 (ninS (Nat.ne_of_lt (Nat.lt_of_lt_of_le E411.lt (Nat.le_trans (Nat.le_refl _) g418))) nin0)).keep K510 (ninS (Nat.ne_of_lt (Nat.lt_of_lt_of_le E411.lt (Nat.le_trans (Nat.le_refl _) g418))) nin0)).keep K513 (ninS (Nat.ne_of_lt (Nat.lt_of_lt_of_le E411.lt (Nat.le_trans (Nat.le_refl _) g418))) nin0)).keep K516 (ninS (Nat.ne_of_lt (Nat.lt_of_lt_of_le E411.lt (Nat.le_trans (Nat.le_refl _) g418))) nin0))
      have en521 := X.en
      refine W.callN (pc' := 867) (W := 1) (argsL := [(.ref a416)]) (st := [(.ref a406)]) (k' := 11) (n' := 372) (a := a406) X (c_init1 (x := a406) (a := a416) (cs := [e6, e30, e30, e30, e30, e30, e30, e30, e30, e30, e30, e30, e30, e30, e30, e30, e14, e30, e30, e30, e30, e30, e30, e30, e30, e30, e30, e30, e30, e30, e30, e22]) (v0 := .null) (c0 := (.int (0 : Int32))) G X.en F518 F519 F520 A517 (latS (hexc_lat F8) (latS (hexc_lat F32) (latS (hexc_lat F32) (latS (hexc_lat F32) (latS (hexc_lat F32) (latS (hexc_lat F32) (latS (hexc_lat F32) (latS (hexc_lat F32) (latS (hexc_lat F32) (latS (hexc_lat F32) (latS (hexc_lat F32) (latS (hexc_lat F32) (latS (hexc_lat F32) (latS (hexc_lat F32) (latS (hexc_lat F32) (latS (hexc_lat F32) (latS (hexc_lat F16) (latS (hexc_lat F32) (latS (hexc_lat F32) (latS (hexc_lat F32) (latS (hexc_lat F32) (latS (hexc_lat F32) (latS (hexc_lat F32) (latS (hexc_lat F32) (latS (hexc_lat F32) (latS (hexc_lat F32) (latS (hexc_lat F32) (latS (hexc_lat F32) (latS (hexc_lat F32) (latS (hexc_lat F32) (latS (hexc_lat F32) (latS (hexc_lat F24) lat0)))))))))))))))))))))))))))))))) (ltb rfl) (leb rfl) g409 nb410) rfl (w52 G) (w53 G) (w54 G) (w18 G) (by decide) (by decide) (by decide) rfl (lenOf pd22 rfl) rfl rfl (Nat.le_of_eq rfl) d_m5_864 rfl (by decide) (by decide) (by decide) (by decide) (kv fun T h522 X z523 q524 => ?_)
      obtain ⟨a525, K526, g527, F528⟩ := q524
      have g529 : Z.heap.size ≤ a525 := Nat.le_trans (Nat.le_trans hz0 (Nat.le_trans (Nat.le_trans (Nat.le_trans (Nat.le_trans (Nat.le_trans (Nat.le_trans (Nat.le_trans (Nat.le_trans (Nat.le_trans (Nat.le_trans (Nat.le_trans (Nat.le_trans (Nat.le_trans (Nat.le_trans (Nat.le_trans (Nat.le_trans (Nat.le_trans (Nat.le_trans (Nat.le_trans (Nat.le_trans (Nat.le_trans (Nat.le_trans (Nat.le_trans (Nat.le_trans (Nat.le_trans (Nat.le_trans (Nat.le_trans (Nat.le_trans (Nat.le_trans (Nat.le_trans (Nat.le_trans (Nat.le_trans (Nat.le_trans (Nat.le_trans (Nat.le_trans (Nat.le_trans (Nat.le_trans K7.1 K15.1) K23.1) K31.1) K407.1) K417.1) K423.1) K426.1) K429.1) K432.1) K435.1) K438.1) K441.1) K444.1) K447.1) K450.1) K453.1) K456.1) K459.1) K462.1) K465.1) K468.1) K471.1) K474.1) K477.1) K480.1) K483.1) K486.1) K489.1) K492.1) K495.1) K498.1) K501.1) K504.1) K507.1) K510.1) K513.1) K516.1)) g527
      have nb530 : ¬ B28 a525 := fun q => absurd (en521.2 _ q) (Nat.not_lt.mpr g527)
      exact W.areturn X d_m5_867 rfl rfl rfl rfl (by decide) (by decide) ⟨_, rfl, ⟨a406, a525, rfl, (Keep.trans (Keep.trans (Keep.trans (Keep.trans (Keep.trans (Keep.trans (Keep.trans (Keep.trans (Keep.trans (Keep.trans (Keep.trans (Keep.trans (Keep.trans (Keep.trans (Keep.trans (Keep.trans (Keep.trans (Keep.trans (Keep.trans (Keep.trans (Keep.trans (Keep.trans (Keep.trans (Keep.trans (Keep.trans (Keep.trans (Keep.trans (Keep.trans (Keep.trans (Keep.trans (Keep.trans (Keep.trans (Keep.trans (Keep.trans (Keep.trans (Keep.trans (Keep.trans (Keep.trans (Keep.trans (Keep.refl h []) K7 all0) K15 all0) K23 all0) K31 all0) K407 all0) K417 all0) K423 (allS (Or.inr (Nat.le_trans (Nat.le_trans (Nat.le_trans (Nat.le_trans (Nat.le_trans K7.1 K15.1) K23.1) K31.1) K407.1) g418)) all0)) K426 (allS (Or.inr (Nat.le_trans (Nat.le_trans (Nat.le_trans (Nat.le_trans (Nat.le_trans K7.1 K15.1) K23.1) K31.1) K407.1) g418)) all0)) K429 (allS (Or.inr (Nat.le_trans (Nat.le_trans (Nat.le_trans (Nat.le_trans (Nat.le_trans K7.1 K15.1) K23.1) K31.1) K407.1) g418)) all0)) K432 (allS (Or.inr (Nat.le_trans (Nat.le_trans (Nat.le_trans (Nat.le_trans (Nat.le_trans K7.1 K15.1) K23.1) K31.1) K407.1) g418)) all0)) K435 (allS (Or.inr (Nat.le_trans (Nat.le_trans (Nat.le_trans (Nat.le_trans (Nat.le_trans K7.1 K15.1) K23.1) K31.1) K407.1) g418)) all0)) K438 (allS (Or.inr (Nat.le_trans (Nat.le_trans (Nat.le_trans (Nat.le_trans (Nat.le_trans K7.1 K15.1) K23.1) K31.1) K407.1) g418)) all0)) K441 (allS (Or.inr (Nat.le_trans (Nat.le_trans (Nat.le_trans (Nat.le_trans (Nat.le_trans K7.1 K15.1) K23.1) K31.1) K407.1) g418)) all0)) K444 (allS (Or.inr (Nat.le_trans (Nat.le_trans (Nat.le_trans (Nat.le_trans (Nat.le_trans K7.1 K15.1) K23.1) K31.1) K407.1) g418)) all0)) K447 (allS (Or.inr (Nat.le_trans (Nat.le_trans (Nat.le_trans (Nat.le_trans (Nat.le_trans K7.1 K15.1) K23.1) K31.1) K407.1) g418)) all0)) K450 (allS (Or.inr (Nat.le_trans (Nat.le_trans (Nat.le_trans (Nat.le_trans (Nat.le_trans K7.1 K15.1) K23.1) K31.1) K407.1) g418)) all0)) K453 (allS (Or.inr (Nat.le_trans (Nat.le_trans (Nat.le_trans (Nat.le_trans (Nat.le_trans K7.1 K15.1) K23.1) K31.1) K407.1) g418)) all0)) K456 (allS (Or.inr (Nat.le_trans (Nat.le_trans (Nat.le_trans (Nat.le_trans (Nat.le_trans K7.1 K15.1) K23.1) K31.1) K407.1) g418)) all0)) K459 (allS (Or.inr (Nat.le_trans (Nat.le_trans (Nat.le_trans (Nat.le_trans (Nat.le_trans K7.1 K15.1) K23.1) K31.1) K407.1) g418)) all0)) K462 (allS (Or.inr (Nat.le_trans (Nat.le_trans (Nat.le_trans (Nat.le_trans (Nat.le_trans K7.1 K15.1) K23.1) K31.1) K407.1) g418)) all0)) K465 (allS (Or.inr (Nat.le_trans (Nat.le_trans (Nat.le_trans (Nat.le_trans (Nat.le_trans K7.1 K15.1) K23.1) K31.1) K407.1) g418)) all0)) K468 (allS (Or.inr (Nat.le_trans (Nat.le_trans (Nat.le_trans (Nat.le_trans (Nat.le_trans K7.1 K15.1) K23.1) K31.1) K407.1) g418)) all0)) K471 (allS (Or.inr (Nat.le_trans (Nat.le_trans (Nat.le_trans (Nat.le_trans (Nat.le_trans K7.1 K15.1) K23.1) K31.1) K407.1) g418)) all0)) K474 (allS (Or.inr (Nat.le_trans (Nat.le_trans (Nat.le_trans (Nat.le_trans (Nat.le_trans K7.1 K15.1) K23.1) K31.1) K407.1) g418)) all0)) K477 (allS (Or.inr (Nat.le_trans (Nat.le_trans (Nat.le_trans (Nat.le_trans (Nat.le_trans K7.1 K15.1) K23.1) K31.1) K407.1) g418)) all0)) K480 (allS (Or.inr (Nat.le_trans (Nat.le_trans (Nat.le_trans (Nat.le_trans (Nat.le_trans K7.1 K15.1) K23.1) K31.1) K407.1) g418)) all0)) K483 (allS (Or.inr (Nat.le_trans (Nat.le_trans (Nat.le_trans (Nat.le_trans (Nat.le_trans K7.1 K15.1) K23.1) K31.1) K407.1) g418)) all0)) K486 (allS (Or.inr (Nat.le_trans (Nat.le_trans (Nat.le_trans (Nat.le_trans (Nat.le_trans K7.1 K15.1) K23.1) K31.1) K407.1) g418)) all0)) K489 (allS (Or.inr (Nat.le_trans (Nat.le_trans (Nat.le_trans (Nat.le_trans (Nat.le_trans K7.1 K15.1) K23.1) K31.1) K407.1) g418)) all0)) K492 (allS (Or.inr (Nat.le_trans (Nat.le_trans (Nat.le_trans (Nat.le_trans (Nat.le_trans K7.1 K15.1) K23.1) K31.1) K407.1) g418)) all0)) K495 (allS (Or.inr (Nat.le_trans (Nat.le_trans (Nat.le_trans (Nat.le_trans (Nat.le_trans K7.1 K15.1) K23.1) K31.1) K407.1) g418)) all0)) K498 (allS (Or.inr (Nat.le_trans (Nat.le_trans (Nat.le_trans (Nat.le_trans (Nat.le_trans K7.1 K15.1) K23.1) K31.1) K407.1) g418)) all0)) K501 (allS (Or.inr (Nat.le_trans (Nat.le_trans (Nat.le_trans (Nat.le_trans (Nat.le_trans K7.1 K15.1) K23.1) K31.1) K407.1) g418)) all0)) K504 (allS (Or.inr (Nat.le_trans (Nat.le_trans (Nat.le_trans (Nat.le_trans (Nat.le_trans K7.1 K15.1) K23.1) K31.1) K407.1) g418)) all0)) K507 (allS (Or.inr (Nat.le_trans (Nat.le_trans (Nat.le_trans (Nat.le_trans (Nat.le_trans K7.1 K15.1) K23.1) K31.1) K407.1) g418)) all0)) K510 (allS (Or.inr (Nat.le_trans (Nat.le_trans (Nat.le_trans (Nat.le_trans (Nat.le_trans K7.1 K15.1) K23.1) K31.1) K407.1) g418)) all0)) K513 (allS (Or.inr (Nat.le_trans (Nat.le_trans (Nat.le_trans (Nat.le_trans (Nat.le_trans K7.1 K15.1) K23.1) K31.1) K407.1) g418)) all0)) K516 (allS (Or.inr (Nat.le_trans (Nat.le_trans (Nat.le_trans (Nat.le_trans (Nat.le_trans K7.1 K15.1) K23.1) K31.1) K407.1) g418)) all0)) K526 (allS (Or.inr (Nat.le_trans (Nat.le_trans (Nat.le_trans (Nat.le_trans K7.1 K15.1) K23.1) K31.1) g408)) all0)), (Nat.le_trans (Nat.le_trans (Nat.le_trans (Nat.le_trans K7.1 K15.1) K23.1) K31.1) g408), (Nat.le_trans (Nat.le_trans (Nat.le_trans (Nat.le_trans (Nat.le_trans (Nat.le_trans (Nat.le_trans (Nat.le_trans (Nat.le_trans (Nat.le_trans (Nat.le_trans (Nat.le_trans (Nat.le_trans (Nat.le_trans (Nat.le_trans (Nat.le_trans (Nat.le_trans (Nat.le_trans (Nat.le_trans (Nat.le_trans (Nat.le_trans (Nat.le_trans (Nat.le_trans (Nat.le_trans (Nat.le_trans (Nat.le_trans (Nat.le_trans (Nat.le_trans (Nat.le_trans (Nat.le_trans (Nat.le_trans (Nat.le_trans (Nat.le_trans (Nat.le_trans (Nat.le_trans (Nat.le_trans (Nat.le_trans (Nat.le_trans K7.1 K15.1) K23.1) K31.1) K407.1) K417.1) K423.1) K426.1) K429.1) K432.1) K435.1) K438.1) K441.1) K444.1) K447.1) K450.1) K453.1) K456.1) K459.1) K462.1) K465.1) K468.1) K471.1) K474.1) K477.1) K480.1) K483.1) K486.1) K489.1) K492.1) K495.1) K498.1) K501.1) K504.1) K507.1) K510.1) K513.1) K516.1) g527), (strc F528 (by rw [F8, F16, F24, F32, sigL, if_neg hi0, if_neg hi1]; rfl))⟩⟩
abbrev c_dig_q (Z : State) (zC : Int32) (fS : Value) (e0 : Addr) (e1 : Addr) (e2 : Addr) (h : Heap) (B : Addr → Prop) (x q a b : Addr) (cs : List Int32) (dl : Int32) (v1 v2 : Value) (h' : Heap) : Prop := Keep h h' [x] ∧ Fld Z h' x "com/example/campo_grande/campogrande/PayloadDigest" "algorithm" "Lcom/example/campo_grande/campogrande/SignatureAlgorithm;" (.ref q) ∧ Fld Z h' x "com/example/campo_grande/campogrande/PayloadDigest" "signature" "Ljava/lang/String;" (.ref a)
def c_dig_rm : Room := { frames := 5, cells := 0, slots := 0, locals := 68 }
set_option maxRecDepth 65536 in
set_option maxHeartbeats 40000000 in
theorem c_dig {l : Launch} {Z : State} {a0 : Array Value} {zC : Int32} {fS : Value} {e0 : Addr} {e1 : Addr} {e2 : Addr} {h : Heap} {B : Addr → Prop} {x q a b : Addr} {cs : List Int32} {dl : Int32} {v1 v2 : Value} (G : Gl Z a0 zC fS e0 e1 e2) (hE : En Z B h) (P0 : Exa Z h x "com/example/campo_grande/campogrande/PayloadDigest") (P1 : Fld Z h x "com/example/campo_grande/campogrande/PayloadDigest" "algorithm" "Lcom/example/campo_grande/campogrande/SignatureAlgorithm;" v1) (P2 : Fld Z h x "com/example/campo_grande/campogrande/PayloadDigest" "signature" "Ljava/lang/String;" v2) (P3 : Exa Z h q "com/example/campo_grande/campogrande/SignatureAlgorithm") (P4 : Fld Z h q "com/example/campo_grande/campogrande/SignatureAlgorithm" "digestLength" "I" (.int dl)) (P5 : Str Z h a b cs) (P6 : cs.length.toInt32 = (2 : Int32) * dl) (P7 : ∀ c ∈ cs, HexC c) (P8 : Z.heap.size ≤ x) (P9 : ¬ B x) : Con l Z consts_1 [] (⟨"com/example/campo_grande/campogrande/PayloadDigest", "<init>", "(Lcom/example/campo_grande/campogrande/SignatureAlgorithm;Ljava/lang/String;)V"⟩ : MethodName) prog_21_method_1_code 3 none c_dig_rm B h #[(.ref x), (.ref q), (.ref a)] (fun vR hR BR => vR = none ∧ BR = B ∧ c_dig_q Z zC fS e0 e1 e2 h B x q a b cs dl v1 v2 hR) := by
  have hz0 := hE.1.1
  refine Con.intro (ls := #[.val (.ref x), .val (.ref q), .val (.ref a)]) (plainFor_of_name pn23) G.2.1 hE (fun m => by first | rfl | (simp [entryFrame, mkF, argsToLocals, Value.category]; done) | rfl) ?_
  intro p e s m below meth c T hs X
  refine W.aloadN (pc' := 1) X d_prog_21_m1_0 rfl rfl rfl ?_
  refine W.initO (pc' := 4) (W := 0) X (w114 G) (w60 G) (w61 G) d_prog_21_m1_1 rfl (by decide) (Nat.le_of_eq rfl) (by decide) rfl fun T X => ?_
  refine W.aloadN (pc' := 5) X d_prog_21_m1_4 rfl rfl rfl ?_
  refine W.aloadN (pc' := 6) X d_prog_21_m1_5 rfl rfl rfl ?_
  refine W.callV (pc' := 9) (W := 0) (argsL := [(.ref a)]) (st := []) (k' := 0) (n' := 0) (a := q) X (c_isSig (q := q) (a := a) (b := b) (cs := cs) (dl := dl) G X.en P4 P5 P6 P7) (w115 G) (w83 G) (nfM (z' := (⟨"com/example/campo_grande/campogrande/SignatureAlgorithm", "isSignature", "(Ljava/lang/String;)Z"⟩ : MethodName)) rfl (w85 G)) (w85 G) (w84 G) P3 (w86 G) (w9 G) (by decide) (by decide) (by decide) rfl (lenOf pd19 rfl) rfl rfl (Nat.le_of_eq rfl) d_prog_21_m1_6 rfl (by decide) (by decide) (by decide) (by decide) (kp fun T X => ?_)
  refine W.ifT (pc' := 29) X d_prog_21_m1_9 (by decide) (by decide) (by decide) ?_
  refine W.aloadN (pc' := 30) X d_prog_21_m1_29 rfl rfl rfl ?_
  refine W.aloadN (pc' := 31) X d_prog_21_m1_30 rfl rfl rfl ?_
  refine W.putF (pc' := 34) X (w116 G) Via.refl P1 P0 (Or.inr ⟨(w117 G), rfl, rfl⟩) (w109 G) (ty := (.object "com/example/campo_grande/campogrande/SignatureAlgorithm")) (by decide) rfl rfl P8 P9 d_prog_21_m1_31 rfl fun T h1 X W2 => ?_
  have F3 := P1.same W2
  refine W.aloadN (pc' := 35) X d_prog_21_m1_34 rfl rfl rfl ?_
  refine W.aloadN (pc' := 36) X d_prog_21_m1_35 rfl rfl rfl ?_
  have F4 := (P2.other W2 (Or.inr (slot_ne (Or.inr (w119 G)) (Or.inr (w117 G)) (by decide) (t := (.object "java/lang/String")) (t' := (.object "com/example/campo_grande/campogrande/SignatureAlgorithm")) (by decide) (by decide))))
  have F5 := (P0.wr W2)
  refine W.putF (pc' := 39) X (w118 G) Via.refl F4 F5 (Or.inr ⟨(w119 G), rfl, rfl⟩) (w109 G) (ty := (.object "java/lang/String")) (by decide) rfl rfl P8 P9 d_prog_21_m1_36 rfl fun T h6 X W7 => ?_
  have F8 := F4.same W7
  have F9 := (F3.other W7 (Or.inr (slot_ne (Or.inr (w117 G)) (Or.inr (w119 G)) (by decide) (t := (.object "com/example/campo_grande/campogrande/SignatureAlgorithm")) (t' := (.object "java/lang/String")) (by decide) (by decide))))
  exact W.vreturn X d_prog_21_m1_39 rfl (by decide) (by decide) ⟨rfl, rfl, ⟨(Keep.wr (Keep.wr (Keep.refl h [x]) W2 (Or.inl (List.mem_of_getElem? (i := 0) rfl))) W7 (Or.inl (List.mem_of_getElem? (i := 0) rfl))), F9, F8⟩⟩
def c_galg_rm : Room := { frames := 0, cells := 0, slots := 0, locals := 0 }
set_option maxRecDepth 65536 in
set_option maxHeartbeats 40000000 in
theorem c_galg {l : Launch} {Z : State} {a0 : Array Value} {zC : Int32} {fS : Value} {e0 : Addr} {e1 : Addr} {e2 : Addr} {h : Heap} {B : Addr → Prop} {a b : Addr} (G : Gl Z a0 zC fS e0 e1 e2) (hE : En Z B h) (P0 : Fld Z h a "com/example/campo_grande/campogrande/ContentKey" "algorithm" "Lcom/example/campo_grande/campogrande/SignatureAlgorithm;" (.ref b)) : Con l Z consts_1 [] (⟨"com/example/campo_grande/campogrande/ContentKey", "getAlgorithm", "()Lcom/example/campo_grande/campogrande/SignatureAlgorithm;"⟩ : MethodName) prog_13_method_6_code 1 (some (.object "com/example/campo_grande/campogrande/SignatureAlgorithm")) c_galg_rm B h #[(.ref a)] (fun vR hR BR => vR = some (.ref b) ∧ hR = h ∧ BR = B) := by
  have hz0 := hE.1.1
  refine Con.intro (ls := #[.val (.ref a)]) (plainFor_of_name pn20) G.2.1 hE (fun m => by first | rfl | (simp [entryFrame, mkF, argsToLocals, Value.category]; done) | rfl) ?_
  intro p e s m below meth c T hs X
  refine W.aloadN (pc' := 1) X d_prog_13_m6_0 rfl rfl rfl ?_
  refine W.getF (pc' := 4) X (w102 G) Via.refl P0 d_prog_13_m6_1 rfl fun T X => ?_
  exact W.areturn X d_prog_13_m6_4 rfl rfl rfl rfl (by decide) (by decide) ⟨rfl, rfl, rfl⟩
def c_gsig_rm : Room := { frames := 0, cells := 0, slots := 0, locals := 0 }
set_option maxRecDepth 65536 in
set_option maxHeartbeats 40000000 in
theorem c_gsig {l : Launch} {Z : State} {a0 : Array Value} {zC : Int32} {fS : Value} {e0 : Addr} {e1 : Addr} {e2 : Addr} {h : Heap} {B : Addr → Prop} {a b : Addr} (G : Gl Z a0 zC fS e0 e1 e2) (hE : En Z B h) (P0 : Fld Z h a "com/example/campo_grande/campogrande/ContentKey" "signature" "Ljava/lang/String;" (.ref b)) : Con l Z consts_1 [] (⟨"com/example/campo_grande/campogrande/ContentKey", "getSignature", "()Ljava/lang/String;"⟩ : MethodName) prog_13_method_7_code 1 (some (.object "java/lang/String")) c_gsig_rm B h #[(.ref a)] (fun vR hR BR => vR = some (.ref b) ∧ hR = h ∧ BR = B) := by
  have hz0 := hE.1.1
  refine Con.intro (ls := #[.val (.ref a)]) (plainFor_of_name pn20) G.2.1 hE (fun m => by first | rfl | (simp [entryFrame, mkF, argsToLocals, Value.category]; done) | rfl) ?_
  intro p e s m below meth c T hs X
  refine W.aloadN (pc' := 1) X d_prog_13_m7_0 rfl rfl rfl ?_
  refine W.getF (pc' := 4) X (w104 G) Via.refl P0 d_prog_13_m7_1 rfl fun T X => ?_
  exact W.areturn X d_prog_13_m7_4 rfl rfl rfl rfl (by decide) (by decide) ⟨rfl, rfl, rfl⟩
def c_names_rm : Room := { frames := 2, cells := 0, slots := 0, locals := 28 }
set_option maxRecDepth 65536 in
set_option maxHeartbeats 40000000 in
theorem c_names {l : Launch} {Z : State} {a0 : Array Value} {zC : Int32} {fS : Value} {e0 : Addr} {e1 : Addr} {e2 : Addr} {h : Heap} {B : Addr → Prop} {x k q q' a b a' b' : Addr} {cs ds : List Int32} (G : Gl Z a0 zC fS e0 e1 e2) (hE : En Z B h) (P0 : Exa Z h k "com/example/campo_grande/campogrande/ContentKey") (P1 : Fld Z h k "com/example/campo_grande/campogrande/ContentKey" "algorithm" "Lcom/example/campo_grande/campogrande/SignatureAlgorithm;" (.ref q')) (P2 : Fld Z h k "com/example/campo_grande/campogrande/ContentKey" "signature" "Ljava/lang/String;" (.ref a')) (P3 : Fld Z h x "com/example/campo_grande/campogrande/PayloadDigest" "algorithm" "Lcom/example/campo_grande/campogrande/SignatureAlgorithm;" (.ref q)) (P4 : Fld Z h x "com/example/campo_grande/campogrande/PayloadDigest" "signature" "Ljava/lang/String;" (.ref a)) (P5 : Str Z h a b cs) (P6 : Str Z h a' b' ds) (P7 : a' ≠ a) : Con l Z consts_1 [] (⟨"com/example/campo_grande/campogrande/PayloadDigest", "names", "(Lcom/example/campo_grande/campogrande/ContentKey;)Z"⟩ : MethodName) prog_21_method_4_code 2 (some .boolean) c_names_rm B h #[(.ref x), (.ref k)] (fun vR hR BR => vR = some (.int (if q' = q ∧ ds = cs then (1 : Int32) else 0)) ∧ hR = h ∧ BR = B) := by
  have hz0 := hE.1.1
  refine Con.intro (ls := #[.val (.ref x), .val (.ref k)]) (plainFor_of_name pn23) G.2.1 hE (fun m => by first | rfl | (simp [entryFrame, mkF, argsToLocals, Value.category]; done) | rfl) ?_
  intro p e s m below meth c T hs X
  refine W.aloadN (pc' := 1) X d_prog_21_m4_0 rfl rfl rfl ?_
  refine W.callV (pc' := 4) (W := 0) (argsL := []) (st := []) (k' := 0) (n' := 0) (a := k) X (c_galg (a := k) (b := q') G X.en P1) (w125 G) (w126 G) (nfM (z' := (⟨"com/example/campo_grande/campogrande/ContentKey", "getAlgorithm", "()Lcom/example/campo_grande/campogrande/SignatureAlgorithm;"⟩ : MethodName)) rfl (w128 G)) (w128 G) (w127 G) P0 (w129 G) (w2 G) (by decide) (by decide) (by decide) rfl (lenOf pd24 rfl) rfl rfl (Nat.le_of_eq rfl) d_prog_21_m4_1 rfl (by decide) (by decide) (by decide) (by decide) (kp fun T X => ?_)
  refine W.aloadN (pc' := 5) X d_prog_21_m4_4 rfl rfl rfl ?_
  refine W.getF (pc' := 8) X (w116 G) Via.refl P3 d_prog_21_m4_5 rfl fun T X => ?_
  by_cases hq : (Value.ref q') = (Value.ref q)
  · skip
    refine W.acF (pc' := 11) X d_prog_21_m4_8 rfl rfl (XT.aa_ne_f hq) rfl ?_
    refine W.aloadN (pc' := 12) X d_prog_21_m4_11 rfl rfl rfl ?_
    refine W.callV (pc' := 15) (W := 0) (argsL := []) (st := []) (k' := 0) (n' := 0) (a := k) X (c_gsig (a := k) (b := a') G X.en P2) (w130 G) (w131 G) (nfM (z' := (⟨"com/example/campo_grande/campogrande/ContentKey", "getAlgorithm", "()Lcom/example/campo_grande/campogrande/SignatureAlgorithm;"⟩ : MethodName)) rfl (w128 G)) (w133 G) (w132 G) P0 (w134 G) (w2 G) (by decide) (by decide) (by decide) rfl (lenOf pd25 rfl) rfl rfl (Nat.le_of_eq rfl) d_prog_21_m4_12 rfl (by decide) (by decide) (by decide) (by decide) (kp fun T X => ?_)
    refine W.aloadN (pc' := 16) X d_prog_21_m4_15 rfl rfl rfl ?_
    refine W.getF (pc' := 19) X (w118 G) Via.refl P4 d_prog_21_m4_16 rfl fun T X => ?_
    refine W.callV (pc' := 22) (W := 0) (argsL := [(.ref a)]) (st := []) (k' := 0) (n' := 0) (a := a') X (c_eq (a := a') (b := b') (a' := a) (b' := b) (cs := ds) (ds := cs) G X.en P6 P5 P7) (w135 G) (w136 G) (nfM (z' := (⟨"java/lang/String", "charAt", "(I)C"⟩ : MethodName)) rfl (w28 G)) (w138 G) (w137 G) P6.exa (w139 G) (w18 G) (by decide) (by decide) (by decide) rfl (lenOf pd26 rfl) rfl rfl (Nat.le_of_eq rfl) d_prog_21_m4_19 rfl (by decide) (by decide) (by decide) (by decide) (kp fun T X => ?_)
    by_cases he : (if ds = cs then (1 : Int32) else 0) = (0 : Int32)
    · skip
      refine W.ifT (pc' := 29) X d_prog_21_m4_22 (XT.i0_eq_t he) (by decide) (by decide) ?_
      refine W.iconst (pc' := 30) X (0 : Int32) d_prog_21_m4_29 (by decide) rfl ?_
      exact W.ireturn X d_prog_21_m4_30 rfl (by decide) (by decide) (by decide) (by decide) ⟨(by rw [if_neg (fun n => by rw [if_pos n.2] at he; exact absurd he (by decide))]), rfl, rfl⟩
    · skip
      refine W.ifF (pc' := 25) X d_prog_21_m4_22 (XT.i0_eq_f he) rfl ?_
      refine W.iconst (pc' := 26) X (1 : Int32) d_prog_21_m4_25 (by decide) rfl ?_
      refine W.goto (pc' := 30) X d_prog_21_m4_26 (by decide) (by decide) ?_
      exact W.ireturn X d_prog_21_m4_30 rfl (by decide) (by decide) (by decide) (by decide) ⟨(by rw [if_pos ⟨Value.ref.inj hq, Classical.byContradiction fun n => he (if_neg n)⟩]), rfl, rfl⟩
  · skip
    refine W.acT (pc' := 29) X d_prog_21_m4_8 rfl rfl (XT.aa_ne_t hq) (by decide) (by decide) ?_
    refine W.iconst (pc' := 30) X (0 : Int32) d_prog_21_m4_29 (by decide) rfl ?_
    exact W.ireturn X d_prog_21_m4_30 rfl (by decide) (by decide) (by decide) (by decide) ⟨(by rw [if_neg (fun n => hq (by rw [n.1]))]), rfl, rfl⟩
set_option maxRecDepth 65536 in
set_option maxHeartbeats 40000000 in
theorem c_law {l : Launch} {Z : State} {a0 : Array Value} {zC : Int32} {fS : Value} {e0 : Addr} {e1 : Addr} {e2 : Addr} {h : Heap} {B : Addr → Prop} {p0 p1 p2 p3 p4 : Int32} (G : Gl Z a0 zC fS e0 e1 e2) (hE : En Z B h)  : Con l Z consts_1 tables_1 x code maxLocals ret room_1 B h #[(.int p0), (.int p1), (.int p2), (.int p3), (.int p4)] (fun vR hR BR => vR = some (.int (1 : Int32))) := by
  have hz0 := hE.1.1
  refine Con.intro (ls := #[.val (.int p0), .val (.int p1), .val (.int p2), .val (.int p3), .val (.int p4), .unset, .unset, .unset, .unset, .unset, .unset, .unset, .unset, .unset, .unset, .unset, .unset, .unset]) (plainFor_of_name pn21) G.2.1 hE (fun m => by first | (simp [entryFrame, mkF, argsToLocals, Value.category, maxLocals]; done) | rfl) ?_
  intro p e s m below meth c T hs X
  have s141 : ∀ (ka kx ky kz kf da dx dy dz df : Int32), i3 ka → N15 kx → N15 ky → N15 kz → N15 kf → i3 da → N15 dx → N15 dy → N15 dz → N15 df → Go l Z consts_1 room_1 B (fun vR hR BR => vR = some (.int (1 : Int32))) p e s m below T 141 #[.val (.int p0), .val (.int p1), .val (.int p2), .val (.int p3), .val (.int p4), .val (.int ka), .val (.int kx), .val (.int ky), .val (.int kz), .val (.int kf), .val (.int da), .val (.int dx), .val (.int dy), .val (.int dz), .val (.int df), .unset, .unset, .unset] [] := by
    intro ka kx ky kz kf da dx dy dz df hka hkx hky hkz hkf hda hdx hdy hdz hdf
    have Eka := Exa.ext X.old (eOf_exa ka G.2.2.2.2.2.2.2.2.2.1 G.2.2.2.2.2.2.2.2.2.2.2.1 G.2.2.2.2.2.2.2.2.2.2.2.2.2.1)
    have Dka := Fld.ext X.old (eOf_fld ka G.2.2.2.2.2.2.2.2.2.2.1 G.2.2.2.2.2.2.2.2.2.2.2.2.1 G.2.2.2.2.2.2.2.2.2.2.2.2.2.2.1)
    have Eda := Exa.ext X.old (eOf_exa da G.2.2.2.2.2.2.2.2.2.1 G.2.2.2.2.2.2.2.2.2.2.2.1 G.2.2.2.2.2.2.2.2.2.2.2.2.2.1)
    have Dda := Fld.ext X.old (eOf_fld da G.2.2.2.2.2.2.2.2.2.2.1 G.2.2.2.2.2.2.2.2.2.2.2.2.1 G.2.2.2.2.2.2.2.2.2.2.2.2.2.2.1)
    refine W.new (pc' := 144) (k' := 1) (n' := 4) X (w0 G) (w1 G) (w2 G) at_141 rfl (by decide) (by decide) (by decide) (by decide) fun T h1 a2 X K3 g4 g5 nb6 E7 D8 => ?_
    have F9 : Fld Z h1 a2 "com/example/campo_grande/campogrande/ContentKey" "volume" "I" (.int (0 : Int32)) := D8 (Or.inr (w101 G)) (ty := .int) (by decide)
    have F10 : Fld Z h1 a2 "com/example/campo_grande/campogrande/ContentKey" "algorithm" "Lcom/example/campo_grande/campogrande/SignatureAlgorithm;" .null := D8 (Or.inr (w103 G)) (ty := (.object "com/example/campo_grande/campogrande/SignatureAlgorithm")) (by decide)
    have F11 : Fld Z h1 a2 "com/example/campo_grande/campogrande/ContentKey" "signature" "Ljava/lang/String;" .null := D8 (Or.inr (w105 G)) (ty := (.object "java/lang/String")) (by decide)
    have F12 : Fld Z h1 a2 "com/example/campo_grande/campogrande/ContentKey" "overflow" "I" (.int (0 : Int32)) := D8 (Or.inr (w107 G)) (ty := .int) (by decide)
    refine W.dup (pc' := 145) X at_144 rfl rfl ?_
    refine W.iloadN (pc' := 146) X at_145 rfl rfl ?_
    refine W.ldcI (pc' := 148) X (w3 G) at_146 rfl ?_
    refine W.iand (pc' := 149) (w := (p3 &&& (2147483647 : Int32))) X at_148 rfl rfl ?_
    refine W.iload (pc' := 151) X at_149 rfl rfl ?_
    refine W.callS (pc' := 154) (W := 3) (argsL := [(.int ka)]) (st := [(.int (p3 &&& (2147483647 : Int32))), (.ref a2), (.ref a2)]) (k' := 1) (n' := 4) X (c_alg (i := ka) G X.en) (w4 G) (w5 G) (w7 G) (w6 G) (by decide) (by decide) (by decide) rfl (lenOf pd27 rfl) rfl rfl (Nat.le_of_eq rfl) at_151 rfl (by decide) (by decide) (by decide) (by decide) (kp fun T X => ?_)
    refine W.iload (pc' := 156) X at_154 rfl rfl ?_
    refine W.iload (pc' := 158) X at_156 rfl rfl ?_
    refine W.iload (pc' := 160) X at_158 rfl rfl ?_
    refine W.iload (pc' := 162) X at_160 rfl rfl ?_
    refine W.iload (pc' := 164) X at_162 rfl rfl ?_
    refine W.callS (pc' := 167) (W := 4) (argsL := [(.int ka), (.int kx), (.int ky), (.int kz), (.int kf)]) (st := [(.ref (eOf e0 e1 e2 ka)), (.int (p3 &&& (2147483647 : Int32))), (.ref a2), (.ref a2)]) (k' := 12) (n' := 408) X (c_sig (i := ka) (x := kx) (y := ky) (z := kz) (f := kf) G X.en) (w11 G) (w12 G) (w13 G) (w6 G) (by decide) (by decide) (by decide) rfl (lenOf pd28 rfl) rfl rfl (Nat.le_of_eq rfl) at_164 rfl (by decide) (by decide) (by decide) (by decide) (kri fun T h13 B16 xr X z14 zb17 q15 => ?_)
    obtain ⟨a18, a19, rfl, K20, g21, g22, F23⟩ := q15
    have g24 : Z.heap.size ≤ a18 := Nat.le_trans (Nat.le_trans hz0 K3.1) g21
    have g25 : Z.heap.size ≤ a19 := Nat.le_trans (Nat.le_trans hz0 K3.1) g22
    refine W.iload (pc' := 169) X at_167 rfl rfl ?_
    refine W.ldcI (pc' := 171) X (w3 G) at_169 rfl ?_
    refine W.iand (pc' := 172) (w := (p4 &&& (2147483647 : Int32))) X at_171 rfl rfl ?_
    have F26 := (E7.keep K20)
    have F27 := (F9.keep K20 nin0)
    have F28 := (F10.keep K20 nin0)
    have F29 := (F11.keep K20 nin0)
    have F30 := (F12.keep K20 nin0)
    have F31 := ((Eka.keep K3).keep K20)
    have F32 := ((Dka.keep K3 nin0).keep K20 nin0)
    have nb33 : ¬ B16 a2 := fun q => (zb17 _ q).elim nb6 (fun r => absurd (Nat.lt_of_lt_of_le E7.lt (Nat.le_refl _)) (Nat.not_lt.mpr r))
    refine W.callN (pc' := 175) (W := 1) (argsL := [(.int (p3 &&& (2147483647 : Int32))), (.ref (eOf e0 e1 e2 ka)), (.ref a18), (.int (p4 &&& (2147483647 : Int32)))]) (st := [(.ref a2)]) (k' := 16) (n' := 488) (a := a2) X (c_key (x := a2) (q := (eOf e0 e1 e2 ka)) (a := a18) (b := a19) (cs := (sigL ka kx ky kz kf)) (dl := (dlOf ka)) (vo := (p3 &&& (2147483647 : Int32))) (ov := (p4 &&& (2147483647 : Int32))) (v0 := (.int (0 : Int32))) (v1 := .null) (v2 := .null) (v3 := (.int (0 : Int32))) G X.en F26 F27 F28 F29 F30 F31 F32 F23 (sigL_len hka _ _ _ _) (sigL_hex _ _ _ _ _) (pos31 _) (pos31 _) g5 nb33 (Nat.ne_of_gt (Nat.lt_of_lt_of_le Eka.lt (Nat.le_trans (Nat.le_refl _) g4))) (Nat.ne_of_lt (Nat.lt_of_lt_of_le E7.lt (Nat.le_trans (Nat.le_refl _) g21))) (Nat.ne_of_lt (Nat.lt_of_lt_of_le E7.lt (Nat.le_trans (Nat.le_refl _) g22)))) rfl (w72 G) (w73 G) (w74 G) (w2 G) (by decide) (by decide) (by decide) rfl (lenOf pd29 rfl) rfl rfl (Nat.le_of_eq rfl) at_172 rfl (by decide) (by decide) (by decide) (by decide) (kvi fun T h34 B37 X z35 zb38 q36 => ?_)
    obtain ⟨K39, F40, F41, F42, F43⟩ := q36
    refine W.astore (pc' := 177) (ls' := #[.val (.int p0), .val (.int p1), .val (.int p2), .val (.int p3), .val (.int p4), .val (.int ka), .val (.int kx), .val (.int ky), .val (.int kz), .val (.int kf), .val (.int da), .val (.int dx), .val (.int dy), .val (.int dz), .val (.int df), .val (.ref a2), .unset, .unset]) X at_175 rfl rfl rfl ?_
    refine W.new (pc' := 180) (k' := 17) (n' := 490) X (w108 G) (w109 G) (w110 G) at_177 rfl (by decide) (by decide) (by decide) (by decide) fun T h44 a45 X K46 g47 g48 nb49 E50 D51 => ?_
    have F52 : Fld Z h44 a45 "com/example/campo_grande/campogrande/PayloadDigest" "algorithm" "Lcom/example/campo_grande/campogrande/SignatureAlgorithm;" .null := D51 (Or.inr (w117 G)) (ty := (.object "com/example/campo_grande/campogrande/SignatureAlgorithm")) (by decide)
    have F53 : Fld Z h44 a45 "com/example/campo_grande/campogrande/PayloadDigest" "signature" "Ljava/lang/String;" .null := D51 (Or.inr (w119 G)) (ty := (.object "java/lang/String")) (by decide)
    refine W.dup (pc' := 181) X at_180 rfl rfl ?_
    refine W.iload (pc' := 183) X at_181 rfl rfl ?_
    refine W.callS (pc' := 186) (W := 2) (argsL := [(.int da)]) (st := [(.ref a45), (.ref a45)]) (k' := 17) (n' := 490) X (c_alg (i := da) G X.en) (w4 G) (w5 G) (w7 G) (w6 G) (by decide) (by decide) (by decide) rfl (lenOf pd27 rfl) rfl rfl (Nat.le_of_eq rfl) at_183 rfl (by decide) (by decide) (by decide) (by decide) (kp fun T X => ?_)
    refine W.iload (pc' := 188) X at_186 rfl rfl ?_
    refine W.iload (pc' := 190) X at_188 rfl rfl ?_
    refine W.iload (pc' := 192) X at_190 rfl rfl ?_
    refine W.iload (pc' := 194) X at_192 rfl rfl ?_
    refine W.iload (pc' := 196) X at_194 rfl rfl ?_
    refine W.callS (pc' := 199) (W := 3) (argsL := [(.int da), (.int dx), (.int dy), (.int dz), (.int df)]) (st := [(.ref (eOf e0 e1 e2 da)), (.ref a45), (.ref a45)]) (k' := 28) (n' := 894) X (c_sig (i := da) (x := dx) (y := dy) (z := dz) (f := df) G X.en) (w11 G) (w12 G) (w13 G) (w6 G) (by decide) (by decide) (by decide) rfl (lenOf pd28 rfl) rfl rfl (Nat.le_of_eq rfl) at_196 rfl (by decide) (by decide) (by decide) (by decide) (kri fun T h54 B57 xr X z55 zb58 q56 => ?_)
    obtain ⟨a59, a60, rfl, K61, g62, g63, F64⟩ := q56
    have g65 : Z.heap.size ≤ a59 := Nat.le_trans (Nat.le_trans hz0 (Nat.le_trans (Nat.le_trans (Nat.le_trans K3.1 K20.1) K39.1) K46.1)) g62
    have g66 : Z.heap.size ≤ a60 := Nat.le_trans (Nat.le_trans hz0 (Nat.le_trans (Nat.le_trans (Nat.le_trans K3.1 K20.1) K39.1) K46.1)) g63
    have F67 := (E50.keep K61)
    have F68 := (F52.keep K61 nin0)
    have F69 := (F53.keep K61 nin0)
    have F70 := (((((Eda.keep K3).keep K20).keep K39).keep K46).keep K61)
    have F71 := (((((Dda.keep K3 nin0).keep K20 nin0).keep K39 (ninS (Nat.ne_of_lt (Nat.lt_of_lt_of_le Eda.lt (Nat.le_trans (Nat.le_refl _) g4))) nin0)).keep K46 nin0).keep K61 nin0)
    have nb72 : ¬ B57 a45 := fun q => (zb58 _ q).elim nb49 (fun r => absurd (Nat.lt_of_lt_of_le E50.lt (Nat.le_refl _)) (Nat.not_lt.mpr r))
    refine W.callN (pc' := 202) (W := 1) (argsL := [(.ref (eOf e0 e1 e2 da)), (.ref a59)]) (st := [(.ref a45)]) (k' := 28) (n' := 894) (a := a45) X (c_dig (x := a45) (q := (eOf e0 e1 e2 da)) (a := a59) (b := a60) (cs := (sigL da dx dy dz df)) (dl := (dlOf da)) (v1 := .null) (v2 := .null) G X.en F67 F68 F69 F70 F71 F64 (sigL_len hda _ _ _ _) (sigL_hex _ _ _ _ _) g48 nb72) rfl (w111 G) (w112 G) (w113 G) (w110 G) (by decide) (by decide) (by decide) rfl (lenOf pd30 rfl) rfl rfl (Nat.le_of_eq rfl) at_199 rfl (by decide) (by decide) (by decide) (by decide) (kv fun T h73 X z74 q75 => ?_)
    obtain ⟨K76, F77, F78⟩ := q75
    refine W.astore (pc' := 204) (ls' := #[.val (.int p0), .val (.int p1), .val (.int p2), .val (.int p3), .val (.int p4), .val (.int ka), .val (.int kx), .val (.int ky), .val (.int kz), .val (.int kf), .val (.int da), .val (.int dx), .val (.int dy), .val (.int dz), .val (.int df), .val (.ref a2), .val (.ref a45), .unset]) X at_202 rfl rfl rfl ?_
    refine W.iload (pc' := 206) X at_204 rfl rfl ?_
    refine W.iload (pc' := 208) X at_206 rfl rfl ?_
    by_cases h0 : ka = da
    · skip
      refine W.icF (pc' := 211) X at_208 (XT.ii_ne_f h0) rfl ?_
      refine W.iload (pc' := 213) X at_211 rfl rfl ?_
      refine W.iload (pc' := 215) X at_213 rfl rfl ?_
      by_cases h1 : kx = dx
      · skip
        refine W.icF (pc' := 218) X at_215 (XT.ii_ne_f h1) rfl ?_
        refine W.iload (pc' := 220) X at_218 rfl rfl ?_
        refine W.iload (pc' := 222) X at_220 rfl rfl ?_
        by_cases h2 : ky = dy
        · skip
          refine W.icF (pc' := 225) X at_222 (XT.ii_ne_f h2) rfl ?_
          refine W.iload (pc' := 227) X at_225 rfl rfl ?_
          refine W.iload (pc' := 229) X at_227 rfl rfl ?_
          by_cases h3 : kz = dz
          · skip
            refine W.icF (pc' := 232) X at_229 (XT.ii_ne_f h3) rfl ?_
            refine W.iload (pc' := 234) X at_232 rfl rfl ?_
            refine W.iload (pc' := 236) X at_234 rfl rfl ?_
            by_cases h4 : kf = df
            · skip
              refine W.icF (pc' := 239) X at_236 (XT.ii_ne_f h4) rfl ?_
              refine W.iconst (pc' := 240) X (1 : Int32) at_239 (by decide) rfl ?_
              refine W.goto (pc' := 244) X at_240 (by decide) (by decide) ?_
              refine W.istore (pc' := 246) (ls' := #[.val (.int p0), .val (.int p1), .val (.int p2), .val (.int p3), .val (.int p4), .val (.int ka), .val (.int kx), .val (.int ky), .val (.int kz), .val (.int kf), .val (.int da), .val (.int dx), .val (.int dy), .val (.int dz), .val (.int df), .val (.ref a2), .val (.ref a45), .val (.int (1 : Int32))]) X at_244 rfl rfl ?_
              refine W.aload (pc' := 248) X at_246 rfl rfl rfl ?_
              refine W.aload (pc' := 250) X at_248 rfl rfl rfl ?_
              have F79 := (F67.keep K76)
              have F80 := ((((F26.keep K39).keep K46).keep K61).keep K76)
              have F81 := (((F41.keep K46 nin0).keep K61 nin0).keep K76 (ninS (Nat.ne_of_lt (Nat.lt_of_lt_of_le E7.lt (Nat.le_trans (Nat.le_trans K20.1 K39.1) g47))) nin0))
              have F82 := (((F42.keep K46 nin0).keep K61 nin0).keep K76 (ninS (Nat.ne_of_lt (Nat.lt_of_lt_of_le E7.lt (Nat.le_trans (Nat.le_trans K20.1 K39.1) g47))) nin0))
              have F83 := (F64.keep K76 (ninS (Nat.ne_of_gt (Nat.lt_of_lt_of_le E50.lt (Nat.le_trans (Nat.le_refl _) g62))) nin0) (ninS (Nat.ne_of_gt (Nat.lt_of_lt_of_le E50.lt (Nat.le_trans (Nat.le_refl _) g63))) nin0))
              have F84 := ((((F23.keep K39 (ninS (Nat.ne_of_gt (Nat.lt_of_lt_of_le E7.lt (Nat.le_trans (Nat.le_refl _) g21))) nin0) (ninS (Nat.ne_of_gt (Nat.lt_of_lt_of_le E7.lt (Nat.le_trans (Nat.le_refl _) g22))) nin0)).keep K46 nin0 nin0).keep K61 nin0 nin0).keep K76 (ninS (Nat.ne_of_lt (Nat.lt_of_lt_of_le F23.lt (Nat.le_trans K39.1 g47))) nin0) (ninS (Nat.ne_of_lt (Nat.lt_of_lt_of_le F23.ltb (Nat.le_trans K39.1 g47))) nin0))
              refine W.callV (pc' := 253) (W := 0) (argsL := [(.ref a2)]) (st := []) (k' := 28) (n' := 894) (a := a45) X (c_names (x := a45) (k := a2) (q := (eOf e0 e1 e2 da)) (q' := (eOf e0 e1 e2 ka)) (a := a59) (b := a60) (a' := a18) (b' := a19) (cs := (sigL da dx dy dz df)) (ds := (sigL ka kx ky kz kf)) G X.en F80 F81 F82 F77 F78 F83 F84 (Nat.ne_of_lt (Nat.lt_of_lt_of_le F23.lt (Nat.le_trans (Nat.le_trans K39.1 K46.1) g62)))) (w120 G) (w121 G) (nfM (z' := (⟨"com/example/campo_grande/campogrande/PayloadDigest", "names", "(Lcom/example/campo_grande/campogrande/ContentKey;)Z"⟩ : MethodName)) rfl (w123 G)) (w123 G) (w122 G) F79 (w124 G) (w110 G) (by decide) (by decide) (by decide) rfl (lenOf pd31 rfl) rfl rfl (Nat.le_of_eq rfl) at_250 rfl (by decide) (by decide) (by decide) (by decide) (kp fun T X => ?_)
              refine W.iload (pc' := 255) X at_253 rfl rfl ?_
              refine W.icF (pc' := 258) X at_255 (XT.ii_ne_f (if_pos (by subst h0 h1 h2 h3 h4; exact ⟨rfl, rfl⟩))) rfl ?_
              refine W.iconst (pc' := 259) X (1 : Int32) at_258 (by decide) rfl ?_
              refine W.goto (pc' := 263) X at_259 (by decide) (by decide) ?_
              exact W.ireturn X at_263 rfl (by decide) (by decide) (by decide) (by decide) rfl
            · skip
              refine W.icT (pc' := 243) X at_236 (XT.ii_ne_t h4) (by decide) (by decide) ?_
              refine W.iconst (pc' := 244) X (0 : Int32) at_243 (by decide) rfl ?_
              refine W.istore (pc' := 246) (ls' := #[.val (.int p0), .val (.int p1), .val (.int p2), .val (.int p3), .val (.int p4), .val (.int ka), .val (.int kx), .val (.int ky), .val (.int kz), .val (.int kf), .val (.int da), .val (.int dx), .val (.int dy), .val (.int dz), .val (.int df), .val (.ref a2), .val (.ref a45), .val (.int (0 : Int32))]) X at_244 rfl rfl ?_
              refine W.aload (pc' := 248) X at_246 rfl rfl rfl ?_
              refine W.aload (pc' := 250) X at_248 rfl rfl rfl ?_
              have F85 := (F67.keep K76)
              have F86 := ((((F26.keep K39).keep K46).keep K61).keep K76)
              have F87 := (((F41.keep K46 nin0).keep K61 nin0).keep K76 (ninS (Nat.ne_of_lt (Nat.lt_of_lt_of_le E7.lt (Nat.le_trans (Nat.le_trans K20.1 K39.1) g47))) nin0))
              have F88 := (((F42.keep K46 nin0).keep K61 nin0).keep K76 (ninS (Nat.ne_of_lt (Nat.lt_of_lt_of_le E7.lt (Nat.le_trans (Nat.le_trans K20.1 K39.1) g47))) nin0))
              have F89 := (F64.keep K76 (ninS (Nat.ne_of_gt (Nat.lt_of_lt_of_le E50.lt (Nat.le_trans (Nat.le_refl _) g62))) nin0) (ninS (Nat.ne_of_gt (Nat.lt_of_lt_of_le E50.lt (Nat.le_trans (Nat.le_refl _) g63))) nin0))
              have F90 := ((((F23.keep K39 (ninS (Nat.ne_of_gt (Nat.lt_of_lt_of_le E7.lt (Nat.le_trans (Nat.le_refl _) g21))) nin0) (ninS (Nat.ne_of_gt (Nat.lt_of_lt_of_le E7.lt (Nat.le_trans (Nat.le_refl _) g22))) nin0)).keep K46 nin0 nin0).keep K61 nin0 nin0).keep K76 (ninS (Nat.ne_of_lt (Nat.lt_of_lt_of_le F23.lt (Nat.le_trans K39.1 g47))) nin0) (ninS (Nat.ne_of_lt (Nat.lt_of_lt_of_le F23.ltb (Nat.le_trans K39.1 g47))) nin0))
              refine W.callV (pc' := 253) (W := 0) (argsL := [(.ref a2)]) (st := []) (k' := 28) (n' := 894) (a := a45) X (c_names (x := a45) (k := a2) (q := (eOf e0 e1 e2 da)) (q' := (eOf e0 e1 e2 ka)) (a := a59) (b := a60) (a' := a18) (b' := a19) (cs := (sigL da dx dy dz df)) (ds := (sigL ka kx ky kz kf)) G X.en F86 F87 F88 F77 F78 F89 F90 (Nat.ne_of_lt (Nat.lt_of_lt_of_le F23.lt (Nat.le_trans (Nat.le_trans K39.1 K46.1) g62)))) (w120 G) (w121 G) (nfM (z' := (⟨"com/example/campo_grande/campogrande/PayloadDigest", "names", "(Lcom/example/campo_grande/campogrande/ContentKey;)Z"⟩ : MethodName)) rfl (w123 G)) (w123 G) (w122 G) F85 (w124 G) (w110 G) (by decide) (by decide) (by decide) rfl (lenOf pd31 rfl) rfl rfl (Nat.le_of_eq rfl) at_250 rfl (by decide) (by decide) (by decide) (by decide) (kp fun T X => ?_)
              refine W.iload (pc' := 255) X at_253 rfl rfl ?_
              refine W.icF (pc' := 258) X at_255 (XT.ii_ne_f (if_neg (fun n => by obtain ⟨n1, n2⟩ := n; have n3 := eOf_inj G.2.2.2.2.2.2.2.2.2.2.1 G.2.2.2.2.2.2.2.2.2.2.2.2.1 G.2.2.2.2.2.2.2.2.2.2.2.2.2.2.1 hka hda n1; subst n3; have n4 := sigL_inj hkx hky hkz hkf hdx hdy hdz hdf n2; exact h4 n4.2.2.2))) rfl ?_
              refine W.iconst (pc' := 259) X (1 : Int32) at_258 (by decide) rfl ?_
              refine W.goto (pc' := 263) X at_259 (by decide) (by decide) ?_
              exact W.ireturn X at_263 rfl (by decide) (by decide) (by decide) (by decide) rfl
          · skip
            refine W.icT (pc' := 243) X at_229 (XT.ii_ne_t h3) (by decide) (by decide) ?_
            refine W.iconst (pc' := 244) X (0 : Int32) at_243 (by decide) rfl ?_
            refine W.istore (pc' := 246) (ls' := #[.val (.int p0), .val (.int p1), .val (.int p2), .val (.int p3), .val (.int p4), .val (.int ka), .val (.int kx), .val (.int ky), .val (.int kz), .val (.int kf), .val (.int da), .val (.int dx), .val (.int dy), .val (.int dz), .val (.int df), .val (.ref a2), .val (.ref a45), .val (.int (0 : Int32))]) X at_244 rfl rfl ?_
            refine W.aload (pc' := 248) X at_246 rfl rfl rfl ?_
            refine W.aload (pc' := 250) X at_248 rfl rfl rfl ?_
            have F91 := (F67.keep K76)
            have F92 := ((((F26.keep K39).keep K46).keep K61).keep K76)
            have F93 := (((F41.keep K46 nin0).keep K61 nin0).keep K76 (ninS (Nat.ne_of_lt (Nat.lt_of_lt_of_le E7.lt (Nat.le_trans (Nat.le_trans K20.1 K39.1) g47))) nin0))
            have F94 := (((F42.keep K46 nin0).keep K61 nin0).keep K76 (ninS (Nat.ne_of_lt (Nat.lt_of_lt_of_le E7.lt (Nat.le_trans (Nat.le_trans K20.1 K39.1) g47))) nin0))
            have F95 := (F64.keep K76 (ninS (Nat.ne_of_gt (Nat.lt_of_lt_of_le E50.lt (Nat.le_trans (Nat.le_refl _) g62))) nin0) (ninS (Nat.ne_of_gt (Nat.lt_of_lt_of_le E50.lt (Nat.le_trans (Nat.le_refl _) g63))) nin0))
            have F96 := ((((F23.keep K39 (ninS (Nat.ne_of_gt (Nat.lt_of_lt_of_le E7.lt (Nat.le_trans (Nat.le_refl _) g21))) nin0) (ninS (Nat.ne_of_gt (Nat.lt_of_lt_of_le E7.lt (Nat.le_trans (Nat.le_refl _) g22))) nin0)).keep K46 nin0 nin0).keep K61 nin0 nin0).keep K76 (ninS (Nat.ne_of_lt (Nat.lt_of_lt_of_le F23.lt (Nat.le_trans K39.1 g47))) nin0) (ninS (Nat.ne_of_lt (Nat.lt_of_lt_of_le F23.ltb (Nat.le_trans K39.1 g47))) nin0))
            refine W.callV (pc' := 253) (W := 0) (argsL := [(.ref a2)]) (st := []) (k' := 28) (n' := 894) (a := a45) X (c_names (x := a45) (k := a2) (q := (eOf e0 e1 e2 da)) (q' := (eOf e0 e1 e2 ka)) (a := a59) (b := a60) (a' := a18) (b' := a19) (cs := (sigL da dx dy dz df)) (ds := (sigL ka kx ky kz kf)) G X.en F92 F93 F94 F77 F78 F95 F96 (Nat.ne_of_lt (Nat.lt_of_lt_of_le F23.lt (Nat.le_trans (Nat.le_trans K39.1 K46.1) g62)))) (w120 G) (w121 G) (nfM (z' := (⟨"com/example/campo_grande/campogrande/PayloadDigest", "names", "(Lcom/example/campo_grande/campogrande/ContentKey;)Z"⟩ : MethodName)) rfl (w123 G)) (w123 G) (w122 G) F91 (w124 G) (w110 G) (by decide) (by decide) (by decide) rfl (lenOf pd31 rfl) rfl rfl (Nat.le_of_eq rfl) at_250 rfl (by decide) (by decide) (by decide) (by decide) (kp fun T X => ?_)
            refine W.iload (pc' := 255) X at_253 rfl rfl ?_
            refine W.icF (pc' := 258) X at_255 (XT.ii_ne_f (if_neg (fun n => by obtain ⟨n1, n2⟩ := n; have n3 := eOf_inj G.2.2.2.2.2.2.2.2.2.2.1 G.2.2.2.2.2.2.2.2.2.2.2.2.1 G.2.2.2.2.2.2.2.2.2.2.2.2.2.2.1 hka hda n1; subst n3; have n4 := sigL_inj hkx hky hkz hkf hdx hdy hdz hdf n2; exact h3 n4.2.2.1))) rfl ?_
            refine W.iconst (pc' := 259) X (1 : Int32) at_258 (by decide) rfl ?_
            refine W.goto (pc' := 263) X at_259 (by decide) (by decide) ?_
            exact W.ireturn X at_263 rfl (by decide) (by decide) (by decide) (by decide) rfl
        · skip
          refine W.icT (pc' := 243) X at_222 (XT.ii_ne_t h2) (by decide) (by decide) ?_
          refine W.iconst (pc' := 244) X (0 : Int32) at_243 (by decide) rfl ?_
          refine W.istore (pc' := 246) (ls' := #[.val (.int p0), .val (.int p1), .val (.int p2), .val (.int p3), .val (.int p4), .val (.int ka), .val (.int kx), .val (.int ky), .val (.int kz), .val (.int kf), .val (.int da), .val (.int dx), .val (.int dy), .val (.int dz), .val (.int df), .val (.ref a2), .val (.ref a45), .val (.int (0 : Int32))]) X at_244 rfl rfl ?_
          refine W.aload (pc' := 248) X at_246 rfl rfl rfl ?_
          refine W.aload (pc' := 250) X at_248 rfl rfl rfl ?_
          have F97 := (F67.keep K76)
          have F98 := ((((F26.keep K39).keep K46).keep K61).keep K76)
          have F99 := (((F41.keep K46 nin0).keep K61 nin0).keep K76 (ninS (Nat.ne_of_lt (Nat.lt_of_lt_of_le E7.lt (Nat.le_trans (Nat.le_trans K20.1 K39.1) g47))) nin0))
          have F100 := (((F42.keep K46 nin0).keep K61 nin0).keep K76 (ninS (Nat.ne_of_lt (Nat.lt_of_lt_of_le E7.lt (Nat.le_trans (Nat.le_trans K20.1 K39.1) g47))) nin0))
          have F101 := (F64.keep K76 (ninS (Nat.ne_of_gt (Nat.lt_of_lt_of_le E50.lt (Nat.le_trans (Nat.le_refl _) g62))) nin0) (ninS (Nat.ne_of_gt (Nat.lt_of_lt_of_le E50.lt (Nat.le_trans (Nat.le_refl _) g63))) nin0))
          have F102 := ((((F23.keep K39 (ninS (Nat.ne_of_gt (Nat.lt_of_lt_of_le E7.lt (Nat.le_trans (Nat.le_refl _) g21))) nin0) (ninS (Nat.ne_of_gt (Nat.lt_of_lt_of_le E7.lt (Nat.le_trans (Nat.le_refl _) g22))) nin0)).keep K46 nin0 nin0).keep K61 nin0 nin0).keep K76 (ninS (Nat.ne_of_lt (Nat.lt_of_lt_of_le F23.lt (Nat.le_trans K39.1 g47))) nin0) (ninS (Nat.ne_of_lt (Nat.lt_of_lt_of_le F23.ltb (Nat.le_trans K39.1 g47))) nin0))
          refine W.callV (pc' := 253) (W := 0) (argsL := [(.ref a2)]) (st := []) (k' := 28) (n' := 894) (a := a45) X (c_names (x := a45) (k := a2) (q := (eOf e0 e1 e2 da)) (q' := (eOf e0 e1 e2 ka)) (a := a59) (b := a60) (a' := a18) (b' := a19) (cs := (sigL da dx dy dz df)) (ds := (sigL ka kx ky kz kf)) G X.en F98 F99 F100 F77 F78 F101 F102 (Nat.ne_of_lt (Nat.lt_of_lt_of_le F23.lt (Nat.le_trans (Nat.le_trans K39.1 K46.1) g62)))) (w120 G) (w121 G) (nfM (z' := (⟨"com/example/campo_grande/campogrande/PayloadDigest", "names", "(Lcom/example/campo_grande/campogrande/ContentKey;)Z"⟩ : MethodName)) rfl (w123 G)) (w123 G) (w122 G) F97 (w124 G) (w110 G) (by decide) (by decide) (by decide) rfl (lenOf pd31 rfl) rfl rfl (Nat.le_of_eq rfl) at_250 rfl (by decide) (by decide) (by decide) (by decide) (kp fun T X => ?_)
          refine W.iload (pc' := 255) X at_253 rfl rfl ?_
          refine W.icF (pc' := 258) X at_255 (XT.ii_ne_f (if_neg (fun n => by obtain ⟨n1, n2⟩ := n; have n3 := eOf_inj G.2.2.2.2.2.2.2.2.2.2.1 G.2.2.2.2.2.2.2.2.2.2.2.2.1 G.2.2.2.2.2.2.2.2.2.2.2.2.2.2.1 hka hda n1; subst n3; have n4 := sigL_inj hkx hky hkz hkf hdx hdy hdz hdf n2; exact h2 n4.2.1))) rfl ?_
          refine W.iconst (pc' := 259) X (1 : Int32) at_258 (by decide) rfl ?_
          refine W.goto (pc' := 263) X at_259 (by decide) (by decide) ?_
          exact W.ireturn X at_263 rfl (by decide) (by decide) (by decide) (by decide) rfl
      · skip
        refine W.icT (pc' := 243) X at_215 (XT.ii_ne_t h1) (by decide) (by decide) ?_
        refine W.iconst (pc' := 244) X (0 : Int32) at_243 (by decide) rfl ?_
        refine W.istore (pc' := 246) (ls' := #[.val (.int p0), .val (.int p1), .val (.int p2), .val (.int p3), .val (.int p4), .val (.int ka), .val (.int kx), .val (.int ky), .val (.int kz), .val (.int kf), .val (.int da), .val (.int dx), .val (.int dy), .val (.int dz), .val (.int df), .val (.ref a2), .val (.ref a45), .val (.int (0 : Int32))]) X at_244 rfl rfl ?_
        refine W.aload (pc' := 248) X at_246 rfl rfl rfl ?_
        refine W.aload (pc' := 250) X at_248 rfl rfl rfl ?_
        have F103 := (F67.keep K76)
        have F104 := ((((F26.keep K39).keep K46).keep K61).keep K76)
        have F105 := (((F41.keep K46 nin0).keep K61 nin0).keep K76 (ninS (Nat.ne_of_lt (Nat.lt_of_lt_of_le E7.lt (Nat.le_trans (Nat.le_trans K20.1 K39.1) g47))) nin0))
        have F106 := (((F42.keep K46 nin0).keep K61 nin0).keep K76 (ninS (Nat.ne_of_lt (Nat.lt_of_lt_of_le E7.lt (Nat.le_trans (Nat.le_trans K20.1 K39.1) g47))) nin0))
        have F107 := (F64.keep K76 (ninS (Nat.ne_of_gt (Nat.lt_of_lt_of_le E50.lt (Nat.le_trans (Nat.le_refl _) g62))) nin0) (ninS (Nat.ne_of_gt (Nat.lt_of_lt_of_le E50.lt (Nat.le_trans (Nat.le_refl _) g63))) nin0))
        have F108 := ((((F23.keep K39 (ninS (Nat.ne_of_gt (Nat.lt_of_lt_of_le E7.lt (Nat.le_trans (Nat.le_refl _) g21))) nin0) (ninS (Nat.ne_of_gt (Nat.lt_of_lt_of_le E7.lt (Nat.le_trans (Nat.le_refl _) g22))) nin0)).keep K46 nin0 nin0).keep K61 nin0 nin0).keep K76 (ninS (Nat.ne_of_lt (Nat.lt_of_lt_of_le F23.lt (Nat.le_trans K39.1 g47))) nin0) (ninS (Nat.ne_of_lt (Nat.lt_of_lt_of_le F23.ltb (Nat.le_trans K39.1 g47))) nin0))
        refine W.callV (pc' := 253) (W := 0) (argsL := [(.ref a2)]) (st := []) (k' := 28) (n' := 894) (a := a45) X (c_names (x := a45) (k := a2) (q := (eOf e0 e1 e2 da)) (q' := (eOf e0 e1 e2 ka)) (a := a59) (b := a60) (a' := a18) (b' := a19) (cs := (sigL da dx dy dz df)) (ds := (sigL ka kx ky kz kf)) G X.en F104 F105 F106 F77 F78 F107 F108 (Nat.ne_of_lt (Nat.lt_of_lt_of_le F23.lt (Nat.le_trans (Nat.le_trans K39.1 K46.1) g62)))) (w120 G) (w121 G) (nfM (z' := (⟨"com/example/campo_grande/campogrande/PayloadDigest", "names", "(Lcom/example/campo_grande/campogrande/ContentKey;)Z"⟩ : MethodName)) rfl (w123 G)) (w123 G) (w122 G) F103 (w124 G) (w110 G) (by decide) (by decide) (by decide) rfl (lenOf pd31 rfl) rfl rfl (Nat.le_of_eq rfl) at_250 rfl (by decide) (by decide) (by decide) (by decide) (kp fun T X => ?_)
        refine W.iload (pc' := 255) X at_253 rfl rfl ?_
        refine W.icF (pc' := 258) X at_255 (XT.ii_ne_f (if_neg (fun n => by obtain ⟨n1, n2⟩ := n; have n3 := eOf_inj G.2.2.2.2.2.2.2.2.2.2.1 G.2.2.2.2.2.2.2.2.2.2.2.2.1 G.2.2.2.2.2.2.2.2.2.2.2.2.2.2.1 hka hda n1; subst n3; have n4 := sigL_inj hkx hky hkz hkf hdx hdy hdz hdf n2; exact h1 n4.1))) rfl ?_
        refine W.iconst (pc' := 259) X (1 : Int32) at_258 (by decide) rfl ?_
        refine W.goto (pc' := 263) X at_259 (by decide) (by decide) ?_
        exact W.ireturn X at_263 rfl (by decide) (by decide) (by decide) (by decide) rfl
    · skip
      refine W.icT (pc' := 243) X at_208 (XT.ii_ne_t h0) (by decide) (by decide) ?_
      refine W.iconst (pc' := 244) X (0 : Int32) at_243 (by decide) rfl ?_
      refine W.istore (pc' := 246) (ls' := #[.val (.int p0), .val (.int p1), .val (.int p2), .val (.int p3), .val (.int p4), .val (.int ka), .val (.int kx), .val (.int ky), .val (.int kz), .val (.int kf), .val (.int da), .val (.int dx), .val (.int dy), .val (.int dz), .val (.int df), .val (.ref a2), .val (.ref a45), .val (.int (0 : Int32))]) X at_244 rfl rfl ?_
      refine W.aload (pc' := 248) X at_246 rfl rfl rfl ?_
      refine W.aload (pc' := 250) X at_248 rfl rfl rfl ?_
      have F109 := (F67.keep K76)
      have F110 := ((((F26.keep K39).keep K46).keep K61).keep K76)
      have F111 := (((F41.keep K46 nin0).keep K61 nin0).keep K76 (ninS (Nat.ne_of_lt (Nat.lt_of_lt_of_le E7.lt (Nat.le_trans (Nat.le_trans K20.1 K39.1) g47))) nin0))
      have F112 := (((F42.keep K46 nin0).keep K61 nin0).keep K76 (ninS (Nat.ne_of_lt (Nat.lt_of_lt_of_le E7.lt (Nat.le_trans (Nat.le_trans K20.1 K39.1) g47))) nin0))
      have F113 := (F64.keep K76 (ninS (Nat.ne_of_gt (Nat.lt_of_lt_of_le E50.lt (Nat.le_trans (Nat.le_refl _) g62))) nin0) (ninS (Nat.ne_of_gt (Nat.lt_of_lt_of_le E50.lt (Nat.le_trans (Nat.le_refl _) g63))) nin0))
      have F114 := ((((F23.keep K39 (ninS (Nat.ne_of_gt (Nat.lt_of_lt_of_le E7.lt (Nat.le_trans (Nat.le_refl _) g21))) nin0) (ninS (Nat.ne_of_gt (Nat.lt_of_lt_of_le E7.lt (Nat.le_trans (Nat.le_refl _) g22))) nin0)).keep K46 nin0 nin0).keep K61 nin0 nin0).keep K76 (ninS (Nat.ne_of_lt (Nat.lt_of_lt_of_le F23.lt (Nat.le_trans K39.1 g47))) nin0) (ninS (Nat.ne_of_lt (Nat.lt_of_lt_of_le F23.ltb (Nat.le_trans K39.1 g47))) nin0))
      refine W.callV (pc' := 253) (W := 0) (argsL := [(.ref a2)]) (st := []) (k' := 28) (n' := 894) (a := a45) X (c_names (x := a45) (k := a2) (q := (eOf e0 e1 e2 da)) (q' := (eOf e0 e1 e2 ka)) (a := a59) (b := a60) (a' := a18) (b' := a19) (cs := (sigL da dx dy dz df)) (ds := (sigL ka kx ky kz kf)) G X.en F110 F111 F112 F77 F78 F113 F114 (Nat.ne_of_lt (Nat.lt_of_lt_of_le F23.lt (Nat.le_trans (Nat.le_trans K39.1 K46.1) g62)))) (w120 G) (w121 G) (nfM (z' := (⟨"com/example/campo_grande/campogrande/PayloadDigest", "names", "(Lcom/example/campo_grande/campogrande/ContentKey;)Z"⟩ : MethodName)) rfl (w123 G)) (w123 G) (w122 G) F109 (w124 G) (w110 G) (by decide) (by decide) (by decide) rfl (lenOf pd31 rfl) rfl rfl (Nat.le_of_eq rfl) at_250 rfl (by decide) (by decide) (by decide) (by decide) (kp fun T X => ?_)
      refine W.iload (pc' := 255) X at_253 rfl rfl ?_
      refine W.icF (pc' := 258) X at_255 (XT.ii_ne_f (if_neg (fun n => by obtain ⟨n1, n2⟩ := n; have n3 := eOf_inj G.2.2.2.2.2.2.2.2.2.2.1 G.2.2.2.2.2.2.2.2.2.2.2.2.1 G.2.2.2.2.2.2.2.2.2.2.2.2.2.2.1 hka hda n1; subst n3; have n4 := sigL_inj hkx hky hkz hkf hdx hdy hdz hdf n2; exact h0 rfl))) rfl ?_
      refine W.iconst (pc' := 259) X (1 : Int32) at_258 (by decide) rfl ?_
      refine W.goto (pc' := 263) X at_259 (by decide) (by decide) ?_
      exact W.ireturn X at_263 rfl (by decide) (by decide) (by decide) (by decide) rfl
  have s120 : ∀ (ka kx ky kz kf da dx dy dz : Int32), i3 ka → N15 kx → N15 ky → N15 kz → N15 kf → i3 da → N15 dx → N15 dy → N15 dz → Go l Z consts_1 room_1 B (fun vR hR BR => vR = some (.int (1 : Int32))) p e s m below T 120 #[.val (.int p0), .val (.int p1), .val (.int p2), .val (.int p3), .val (.int p4), .val (.int ka), .val (.int kx), .val (.int ky), .val (.int kz), .val (.int kf), .val (.int da), .val (.int dx), .val (.int dy), .val (.int dz), .unset, .unset, .unset, .unset] [] := by
    intro ka kx ky kz kf da dx dy dz hka hkx hky hkz hkf hda hdx hdy hdz
    refine W.iloadN (pc' := 121) X at_120 rfl rfl ?_
    refine W.bipush (pc' := 123) X (16 : Int32) at_121 (by decide) rfl ?_
    refine W.iand (pc' := 124) (w := (p2 &&& (16 : Int32))) X at_123 rfl rfl ?_
    by_cases hb : (p2 &&& (16 : Int32)) = (0 : Int32)
    · skip
      refine W.ifT (pc' := 137) X at_124 (XT.i0_eq_t hb) (by decide) (by decide) ?_
      refine W.iload (pc' := 139) X at_137 rfl rfl ?_
      refine W.istore (pc' := 141) (ls' := #[.val (.int p0), .val (.int p1), .val (.int p2), .val (.int p3), .val (.int p4), .val (.int ka), .val (.int kx), .val (.int ky), .val (.int kz), .val (.int kf), .val (.int da), .val (.int dx), .val (.int dy), .val (.int dz), .val (.int kf), .unset, .unset, .unset]) X at_139 rfl rfl ?_
      exact s141 ka kx ky kz kf da dx dy dz kf hka hkx hky hkz hkf hda hdx hdy hdz hkf
    · skip
      refine W.ifF (pc' := 127) X at_124 (XT.i0_eq_f hb) rfl ?_
      refine W.iloadN (pc' := 128) X at_127 rfl rfl ?_
      refine W.bipush (pc' := 130) X (14 : Int32) at_128 (by decide) rfl ?_
      refine W.iushr (pc' := 131) (w := (XT.ushr p1 (14 : Int32))) X at_130 rfl rfl ?_
      refine W.bipush (pc' := 133) X (15 : Int32) at_131 (by decide) rfl ?_
      refine W.iand (pc' := 134) (w := ((XT.ushr p1 (14 : Int32)) &&& (15 : Int32))) X at_133 rfl rfl ?_
      refine W.goto (pc' := 139) X at_134 (by decide) (by decide) ?_
      refine W.istore (pc' := 141) (ls' := #[.val (.int p0), .val (.int p1), .val (.int p2), .val (.int p3), .val (.int p4), .val (.int ka), .val (.int kx), .val (.int ky), .val (.int kz), .val (.int kf), .val (.int da), .val (.int dx), .val (.int dy), .val (.int dz), .val (.int ((XT.ushr p1 (14 : Int32)) &&& (15 : Int32))), .unset, .unset, .unset]) X at_139 rfl rfl ?_
      exact s141 ka kx ky kz kf da dx dy dz ((XT.ushr p1 (14 : Int32)) &&& (15 : Int32)) hka hkx hky hkz hkf hda hdx hdy hdz (m15 _)
  have s99 : ∀ (ka kx ky kz kf da dx dy : Int32), i3 ka → N15 kx → N15 ky → N15 kz → N15 kf → i3 da → N15 dx → N15 dy → Go l Z consts_1 room_1 B (fun vR hR BR => vR = some (.int (1 : Int32))) p e s m below T 99 #[.val (.int p0), .val (.int p1), .val (.int p2), .val (.int p3), .val (.int p4), .val (.int ka), .val (.int kx), .val (.int ky), .val (.int kz), .val (.int kf), .val (.int da), .val (.int dx), .val (.int dy), .unset, .unset, .unset, .unset, .unset] [] := by
    intro ka kx ky kz kf da dx dy hka hkx hky hkz hkf hda hdx hdy
    refine W.iloadN (pc' := 100) X at_99 rfl rfl ?_
    refine W.bipush (pc' := 102) X (8 : Int32) at_100 (by decide) rfl ?_
    refine W.iand (pc' := 103) (w := (p2 &&& (8 : Int32))) X at_102 rfl rfl ?_
    by_cases hb : (p2 &&& (8 : Int32)) = (0 : Int32)
    · skip
      refine W.ifT (pc' := 116) X at_103 (XT.i0_eq_t hb) (by decide) (by decide) ?_
      refine W.iload (pc' := 118) X at_116 rfl rfl ?_
      refine W.istore (pc' := 120) (ls' := #[.val (.int p0), .val (.int p1), .val (.int p2), .val (.int p3), .val (.int p4), .val (.int ka), .val (.int kx), .val (.int ky), .val (.int kz), .val (.int kf), .val (.int da), .val (.int dx), .val (.int dy), .val (.int kz), .unset, .unset, .unset, .unset]) X at_118 rfl rfl ?_
      exact s120 ka kx ky kz kf da dx dy kz hka hkx hky hkz hkf hda hdx hdy hkz
    · skip
      refine W.ifF (pc' := 106) X at_103 (XT.i0_eq_f hb) rfl ?_
      refine W.iloadN (pc' := 107) X at_106 rfl rfl ?_
      refine W.bipush (pc' := 109) X (10 : Int32) at_107 (by decide) rfl ?_
      refine W.iushr (pc' := 110) (w := (XT.ushr p1 (10 : Int32))) X at_109 rfl rfl ?_
      refine W.bipush (pc' := 112) X (15 : Int32) at_110 (by decide) rfl ?_
      refine W.iand (pc' := 113) (w := ((XT.ushr p1 (10 : Int32)) &&& (15 : Int32))) X at_112 rfl rfl ?_
      refine W.goto (pc' := 118) X at_113 (by decide) (by decide) ?_
      refine W.istore (pc' := 120) (ls' := #[.val (.int p0), .val (.int p1), .val (.int p2), .val (.int p3), .val (.int p4), .val (.int ka), .val (.int kx), .val (.int ky), .val (.int kz), .val (.int kf), .val (.int da), .val (.int dx), .val (.int dy), .val (.int ((XT.ushr p1 (10 : Int32)) &&& (15 : Int32))), .unset, .unset, .unset, .unset]) X at_118 rfl rfl ?_
      exact s120 ka kx ky kz kf da dx dy ((XT.ushr p1 (10 : Int32)) &&& (15 : Int32)) hka hkx hky hkz hkf hda hdx hdy (m15 _)
  have s79 : ∀ (ka kx ky kz kf da dx : Int32), i3 ka → N15 kx → N15 ky → N15 kz → N15 kf → i3 da → N15 dx → Go l Z consts_1 room_1 B (fun vR hR BR => vR = some (.int (1 : Int32))) p e s m below T 79 #[.val (.int p0), .val (.int p1), .val (.int p2), .val (.int p3), .val (.int p4), .val (.int ka), .val (.int kx), .val (.int ky), .val (.int kz), .val (.int kf), .val (.int da), .val (.int dx), .unset, .unset, .unset, .unset, .unset, .unset] [] := by
    intro ka kx ky kz kf da dx hka hkx hky hkz hkf hda hdx
    refine W.iloadN (pc' := 80) X at_79 rfl rfl ?_
    refine W.iconst (pc' := 81) X (4 : Int32) at_80 (by decide) rfl ?_
    refine W.iand (pc' := 82) (w := (p2 &&& (4 : Int32))) X at_81 rfl rfl ?_
    by_cases hb : (p2 &&& (4 : Int32)) = (0 : Int32)
    · skip
      refine W.ifT (pc' := 95) X at_82 (XT.i0_eq_t hb) (by decide) (by decide) ?_
      refine W.iload (pc' := 97) X at_95 rfl rfl ?_
      refine W.istore (pc' := 99) (ls' := #[.val (.int p0), .val (.int p1), .val (.int p2), .val (.int p3), .val (.int p4), .val (.int ka), .val (.int kx), .val (.int ky), .val (.int kz), .val (.int kf), .val (.int da), .val (.int dx), .val (.int ky), .unset, .unset, .unset, .unset, .unset]) X at_97 rfl rfl ?_
      exact s99 ka kx ky kz kf da dx ky hka hkx hky hkz hkf hda hdx hky
    · skip
      refine W.ifF (pc' := 85) X at_82 (XT.i0_eq_f hb) rfl ?_
      refine W.iloadN (pc' := 86) X at_85 rfl rfl ?_
      refine W.bipush (pc' := 88) X (6 : Int32) at_86 (by decide) rfl ?_
      refine W.iushr (pc' := 89) (w := (XT.ushr p1 (6 : Int32))) X at_88 rfl rfl ?_
      refine W.bipush (pc' := 91) X (15 : Int32) at_89 (by decide) rfl ?_
      refine W.iand (pc' := 92) (w := ((XT.ushr p1 (6 : Int32)) &&& (15 : Int32))) X at_91 rfl rfl ?_
      refine W.goto (pc' := 97) X at_92 (by decide) (by decide) ?_
      refine W.istore (pc' := 99) (ls' := #[.val (.int p0), .val (.int p1), .val (.int p2), .val (.int p3), .val (.int p4), .val (.int ka), .val (.int kx), .val (.int ky), .val (.int kz), .val (.int kf), .val (.int da), .val (.int dx), .val (.int ((XT.ushr p1 (6 : Int32)) &&& (15 : Int32))), .unset, .unset, .unset, .unset, .unset]) X at_97 rfl rfl ?_
      exact s99 ka kx ky kz kf da dx ((XT.ushr p1 (6 : Int32)) &&& (15 : Int32)) hka hkx hky hkz hkf hda hdx (m15 _)
  have s60 : ∀ (ka kx ky kz kf da : Int32), i3 ka → N15 kx → N15 ky → N15 kz → N15 kf → i3 da → Go l Z consts_1 room_1 B (fun vR hR BR => vR = some (.int (1 : Int32))) p e s m below T 60 #[.val (.int p0), .val (.int p1), .val (.int p2), .val (.int p3), .val (.int p4), .val (.int ka), .val (.int kx), .val (.int ky), .val (.int kz), .val (.int kf), .val (.int da), .unset, .unset, .unset, .unset, .unset, .unset, .unset] [] := by
    intro ka kx ky kz kf da hka hkx hky hkz hkf hda
    refine W.iloadN (pc' := 61) X at_60 rfl rfl ?_
    refine W.iconst (pc' := 62) X (2 : Int32) at_61 (by decide) rfl ?_
    refine W.iand (pc' := 63) (w := (p2 &&& (2 : Int32))) X at_62 rfl rfl ?_
    by_cases hb : (p2 &&& (2 : Int32)) = (0 : Int32)
    · skip
      refine W.ifT (pc' := 75) X at_63 (XT.i0_eq_t hb) (by decide) (by decide) ?_
      refine W.iload (pc' := 77) X at_75 rfl rfl ?_
      refine W.istore (pc' := 79) (ls' := #[.val (.int p0), .val (.int p1), .val (.int p2), .val (.int p3), .val (.int p4), .val (.int ka), .val (.int kx), .val (.int ky), .val (.int kz), .val (.int kf), .val (.int da), .val (.int kx), .unset, .unset, .unset, .unset, .unset, .unset]) X at_77 rfl rfl ?_
      exact s79 ka kx ky kz kf da kx hka hkx hky hkz hkf hda hkx
    · skip
      refine W.ifF (pc' := 66) X at_63 (XT.i0_eq_f hb) rfl ?_
      refine W.iloadN (pc' := 67) X at_66 rfl rfl ?_
      refine W.iconst (pc' := 68) X (2 : Int32) at_67 (by decide) rfl ?_
      refine W.iushr (pc' := 69) (w := (XT.ushr p1 (2 : Int32))) X at_68 rfl rfl ?_
      refine W.bipush (pc' := 71) X (15 : Int32) at_69 (by decide) rfl ?_
      refine W.iand (pc' := 72) (w := ((XT.ushr p1 (2 : Int32)) &&& (15 : Int32))) X at_71 rfl rfl ?_
      refine W.goto (pc' := 77) X at_72 (by decide) (by decide) ?_
      refine W.istore (pc' := 79) (ls' := #[.val (.int p0), .val (.int p1), .val (.int p2), .val (.int p3), .val (.int p4), .val (.int ka), .val (.int kx), .val (.int ky), .val (.int kz), .val (.int kf), .val (.int da), .val (.int ((XT.ushr p1 (2 : Int32)) &&& (15 : Int32))), .unset, .unset, .unset, .unset, .unset, .unset]) X at_77 rfl rfl ?_
      exact s79 ka kx ky kz kf da ((XT.ushr p1 (2 : Int32)) &&& (15 : Int32)) hka hkx hky hkz hkf hda (m15 _)
  refine W.iloadN (pc' := 1) X at_0 rfl rfl ?_
  refine W.iconst (pc' := 2) X (3 : Int32) at_1 (by decide) rfl ?_
  refine W.iand (pc' := 3) (w := (p0 &&& (3 : Int32))) X at_2 rfl rfl ?_
  refine W.iconst (pc' := 4) X (3 : Int32) at_3 (by decide) rfl ?_
  refine W.irem (pc' := 5) (w := ((p0 &&& (3 : Int32)) % (3 : Int32))) X at_4 (by decide) rfl rfl ?_
  refine W.istore (pc' := 7) (ls' := #[.val (.int p0), .val (.int p1), .val (.int p2), .val (.int p3), .val (.int p4), .val (.int ((p0 &&& (3 : Int32)) % (3 : Int32))), .unset, .unset, .unset, .unset, .unset, .unset, .unset, .unset, .unset, .unset, .unset, .unset]) X at_5 rfl rfl ?_
  refine W.iloadN (pc' := 8) X at_7 rfl rfl ?_
  refine W.iconst (pc' := 9) X (2 : Int32) at_8 (by decide) rfl ?_
  refine W.iushr (pc' := 10) (w := (XT.ushr p0 (2 : Int32))) X at_9 rfl rfl ?_
  refine W.bipush (pc' := 12) X (15 : Int32) at_10 (by decide) rfl ?_
  refine W.iand (pc' := 13) (w := ((XT.ushr p0 (2 : Int32)) &&& (15 : Int32))) X at_12 rfl rfl ?_
  refine W.istore (pc' := 15) (ls' := #[.val (.int p0), .val (.int p1), .val (.int p2), .val (.int p3), .val (.int p4), .val (.int ((p0 &&& (3 : Int32)) % (3 : Int32))), .val (.int ((XT.ushr p0 (2 : Int32)) &&& (15 : Int32))), .unset, .unset, .unset, .unset, .unset, .unset, .unset, .unset, .unset, .unset, .unset]) X at_13 rfl rfl ?_
  refine W.iloadN (pc' := 16) X at_15 rfl rfl ?_
  refine W.bipush (pc' := 18) X (6 : Int32) at_16 (by decide) rfl ?_
  refine W.iushr (pc' := 19) (w := (XT.ushr p0 (6 : Int32))) X at_18 rfl rfl ?_
  refine W.bipush (pc' := 21) X (15 : Int32) at_19 (by decide) rfl ?_
  refine W.iand (pc' := 22) (w := ((XT.ushr p0 (6 : Int32)) &&& (15 : Int32))) X at_21 rfl rfl ?_
  refine W.istore (pc' := 24) (ls' := #[.val (.int p0), .val (.int p1), .val (.int p2), .val (.int p3), .val (.int p4), .val (.int ((p0 &&& (3 : Int32)) % (3 : Int32))), .val (.int ((XT.ushr p0 (2 : Int32)) &&& (15 : Int32))), .val (.int ((XT.ushr p0 (6 : Int32)) &&& (15 : Int32))), .unset, .unset, .unset, .unset, .unset, .unset, .unset, .unset, .unset, .unset]) X at_22 rfl rfl ?_
  refine W.iloadN (pc' := 25) X at_24 rfl rfl ?_
  refine W.bipush (pc' := 27) X (10 : Int32) at_25 (by decide) rfl ?_
  refine W.iushr (pc' := 28) (w := (XT.ushr p0 (10 : Int32))) X at_27 rfl rfl ?_
  refine W.bipush (pc' := 30) X (15 : Int32) at_28 (by decide) rfl ?_
  refine W.iand (pc' := 31) (w := ((XT.ushr p0 (10 : Int32)) &&& (15 : Int32))) X at_30 rfl rfl ?_
  refine W.istore (pc' := 33) (ls' := #[.val (.int p0), .val (.int p1), .val (.int p2), .val (.int p3), .val (.int p4), .val (.int ((p0 &&& (3 : Int32)) % (3 : Int32))), .val (.int ((XT.ushr p0 (2 : Int32)) &&& (15 : Int32))), .val (.int ((XT.ushr p0 (6 : Int32)) &&& (15 : Int32))), .val (.int ((XT.ushr p0 (10 : Int32)) &&& (15 : Int32))), .unset, .unset, .unset, .unset, .unset, .unset, .unset, .unset, .unset]) X at_31 rfl rfl ?_
  refine W.iloadN (pc' := 34) X at_33 rfl rfl ?_
  refine W.bipush (pc' := 36) X (14 : Int32) at_34 (by decide) rfl ?_
  refine W.iushr (pc' := 37) (w := (XT.ushr p0 (14 : Int32))) X at_36 rfl rfl ?_
  refine W.bipush (pc' := 39) X (15 : Int32) at_37 (by decide) rfl ?_
  refine W.iand (pc' := 40) (w := ((XT.ushr p0 (14 : Int32)) &&& (15 : Int32))) X at_39 rfl rfl ?_
  refine W.istore (pc' := 42) (ls' := #[.val (.int p0), .val (.int p1), .val (.int p2), .val (.int p3), .val (.int p4), .val (.int ((p0 &&& (3 : Int32)) % (3 : Int32))), .val (.int ((XT.ushr p0 (2 : Int32)) &&& (15 : Int32))), .val (.int ((XT.ushr p0 (6 : Int32)) &&& (15 : Int32))), .val (.int ((XT.ushr p0 (10 : Int32)) &&& (15 : Int32))), .val (.int ((XT.ushr p0 (14 : Int32)) &&& (15 : Int32))), .unset, .unset, .unset, .unset, .unset, .unset, .unset, .unset]) X at_40 rfl rfl ?_
  refine W.iloadN (pc' := 43) X at_42 rfl rfl ?_
  refine W.iconst (pc' := 44) X (1 : Int32) at_43 (by decide) rfl ?_
  refine W.iand (pc' := 45) (w := (p2 &&& (1 : Int32))) X at_44 rfl rfl ?_
  by_cases hb : (p2 &&& (1 : Int32)) = (0 : Int32)
  · skip
    refine W.ifT (pc' := 56) X at_45 (XT.i0_eq_t hb) (by decide) (by decide) ?_
    refine W.iload (pc' := 58) X at_56 rfl rfl ?_
    refine W.istore (pc' := 60) (ls' := #[.val (.int p0), .val (.int p1), .val (.int p2), .val (.int p3), .val (.int p4), .val (.int ((p0 &&& (3 : Int32)) % (3 : Int32))), .val (.int ((XT.ushr p0 (2 : Int32)) &&& (15 : Int32))), .val (.int ((XT.ushr p0 (6 : Int32)) &&& (15 : Int32))), .val (.int ((XT.ushr p0 (10 : Int32)) &&& (15 : Int32))), .val (.int ((XT.ushr p0 (14 : Int32)) &&& (15 : Int32))), .val (.int ((p0 &&& (3 : Int32)) % (3 : Int32))), .unset, .unset, .unset, .unset, .unset, .unset, .unset]) X at_58 rfl rfl ?_
    exact s60 ((p0 &&& (3 : Int32)) % (3 : Int32)) ((XT.ushr p0 (2 : Int32)) &&& (15 : Int32)) ((XT.ushr p0 (6 : Int32)) &&& (15 : Int32)) ((XT.ushr p0 (10 : Int32)) &&& (15 : Int32)) ((XT.ushr p0 (14 : Int32)) &&& (15 : Int32)) ((p0 &&& (3 : Int32)) % (3 : Int32)) (mod3 _) (m15 _) (m15 _) (m15 _) (m15 _) (mod3 _)
  · skip
    refine W.ifF (pc' := 48) X at_45 (XT.i0_eq_f hb) rfl ?_
    refine W.iloadN (pc' := 49) X at_48 rfl rfl ?_
    refine W.iconst (pc' := 50) X (3 : Int32) at_49 (by decide) rfl ?_
    refine W.iand (pc' := 51) (w := (p1 &&& (3 : Int32))) X at_50 rfl rfl ?_
    refine W.iconst (pc' := 52) X (3 : Int32) at_51 (by decide) rfl ?_
    refine W.irem (pc' := 53) (w := ((p1 &&& (3 : Int32)) % (3 : Int32))) X at_52 (by decide) rfl rfl ?_
    refine W.goto (pc' := 58) X at_53 (by decide) (by decide) ?_
    refine W.istore (pc' := 60) (ls' := #[.val (.int p0), .val (.int p1), .val (.int p2), .val (.int p3), .val (.int p4), .val (.int ((p0 &&& (3 : Int32)) % (3 : Int32))), .val (.int ((XT.ushr p0 (2 : Int32)) &&& (15 : Int32))), .val (.int ((XT.ushr p0 (6 : Int32)) &&& (15 : Int32))), .val (.int ((XT.ushr p0 (10 : Int32)) &&& (15 : Int32))), .val (.int ((XT.ushr p0 (14 : Int32)) &&& (15 : Int32))), .val (.int ((p1 &&& (3 : Int32)) % (3 : Int32))), .unset, .unset, .unset, .unset, .unset, .unset, .unset]) X at_58 rfl rfl ?_
    exact s60 ((p0 &&& (3 : Int32)) % (3 : Int32)) ((XT.ushr p0 (2 : Int32)) &&& (15 : Int32)) ((XT.ushr p0 (6 : Int32)) &&& (15 : Int32)) ((XT.ushr p0 (10 : Int32)) &&& (15 : Int32)) ((XT.ushr p0 (14 : Int32)) &&& (15 : Int32)) ((p1 &&& (3 : Int32)) % (3 : Int32)) (mod3 _) (m15 _) (m15 _) (m15 _) (m15 _) (mod3 _)
set_option maxRecDepth 65536 in
set_option maxHeartbeats 40000000 in
theorem comes_1 {Post : Tables → Env → Array Value → State → Outcome → State → Prop} (hpost : ∀ tb e args s v u, (limb_1_1.after args s (.returned v) u = true ∧ limb_1_2.after args s (.returned v) u = true ∧ True) → ReturnedEndW s (.returned v) u (Jvm.fieldLocs frame_1_writes args s ++ Jvm.arrayLocs frame_1_arrays args s ++ Jvm.staticLocs frame_1_statics s) 32 3712 → Post tb e args s (.returned v) u) :
    ArmFor flags0 classFile x code maxLocals ret World_1 tables_1 room_1 Calls_1 rest_1 Pre_1 Post := by
  intro l hfl _ _ p e ha hc hk s m args below hf hA hF happ hP
  obtain ⟨hcalls, hrest, hpre⟩ := hP
  obtain ⟨-, -, -, hnamed, -, -, -, hat⟩ := (Spec.applies_iff hf).mp happ
  obtain ⟨hg, hn⟩ := and_e (Cond.before_iff.mp (show (Jvm.Cond.and given_1 narrow_1).before args s = true from hpre))
  obtain ⟨h1, h2⟩ := and_e hg
  obtain ⟨w0, w1, w2, w3, w4, rfl⟩ : ∃ w0 w1 w2 w3 w4 : Value, args = #[w0, w1, w2, w3, w4] := by
    have hs : args.size = 5 := by simpa [Cond.value, given_1] using h1
    obtain ⟨L⟩ := args
    match L, hs with
    | [w0, w1, w2, w3, w4], _ => exact ⟨w0, w1, w2, w3, w4, rfl⟩
  obtain ⟨k0, r0⟩ := and_e h2
  obtain ⟨i0, e0⟩ := is_v k0
  obtain rfl : w0 = (.int i0) := Option.some.inj e0
  obtain ⟨k1, r1⟩ := and_e r0
  obtain ⟨i1, e1⟩ := is_v k1
  obtain rfl : w1 = (.int i1) := Option.some.inj e1
  obtain ⟨k2, r2⟩ := and_e r1
  obtain ⟨i2, e2⟩ := is_v k2
  obtain rfl : w2 = (.int i2) := Option.some.inj e2
  obtain ⟨k3, r3⟩ := and_e r2
  obtain ⟨i3, e3⟩ := is_v k3
  obtain rfl : w3 = (.int i3) := Option.some.inj e3
  obtain ⟨i4, e4⟩ := is_v r3
  obtain rfl : w4 = (.int i4) := Option.some.inj e4
  have hw := fun d (hd : d ∈ tables_1) => atoms_spec (ws := Jvm.Cond.code x code maxLocals ret :: tables_1) hat d (List.mem_cons_of_mem _ hd)
  obtain ⟨hsets, hown0⟩ := atoms_of _ (rest_1_c_eq ▸ (show rest_1_c.before _ s = true from hrest))
  obtain ⟨zC, v1⟩ := is_v (Cond.before_iff.mp (hsets _ (List.mem_of_getElem? (i := 1) rfl)))
  have c1 : ¬ (zC = (0 : Int32)) := gotF (Cond.eq_ints v1 (Term.int_eval (0))) (not_v (Cond.before_iff.mp (hsets _ (List.mem_of_getElem? (i := 2) rfl))))
  have S1 := Sta.start v1 (Or.inl (hsets _ (List.mem_of_getElem? (i := 0) rfl)))
  obtain ⟨fS, v2, c2⟩ := isR_v (Cond.before_iff.mp (hsets _ (List.mem_of_getElem? (i := 8) rfl)))
  have S2 := Sta.start v2 (Or.inl (hsets _ (List.mem_of_getElem? (i := 7) rfl)))
  obtain ⟨m0, s0⟩ := and_e hn
  obtain ⟨m1, s1⟩ := and_e s0
  obtain ⟨m2, s2⟩ := and_e s1
  obtain ⟨m3, s3⟩ := and_e s2
  obtain ⟨m4, s4⟩ := and_e s3
  obtain ⟨m5, s5⟩ := and_e s4
  obtain ⟨m6, s6⟩ := and_e s5
  obtain ⟨m7, s7⟩ := and_e s6
  have m8 := s7
  obtain ⟨e0, v6⟩ := exa_v m0
  have S6 := Sta.start v6 (Or.inr ⟨(hw _ (List.mem_of_getElem? (i := 9) rfl)), (hw _ (List.mem_of_getElem? (i := 10) rfl))⟩)
  obtain ⟨e1, v7⟩ := exa_v m6
  have S7 := Sta.start v7 (Or.inr ⟨(hw _ (List.mem_of_getElem? (i := 9) rfl)), (hw _ (List.mem_of_getElem? (i := 147) rfl))⟩)
  obtain ⟨e2, v8⟩ := exa_v m2
  have S8 := Sta.start v8 (Or.inr ⟨(hw _ (List.mem_of_getElem? (i := 9) rfl)), (hw _ (List.mem_of_getElem? (i := 145) rfl))⟩)
  have Xe0 := Exa.start v6 m0
  have Ye0 : Fld s s.heap e0 "com/example/campo_grande/campogrande/SignatureAlgorithm" "digestLength" "I" (.int (32 : Int32)) := Fld.start ((fld_at v6).symm.trans (Cond.eq_int (Cond.before_iff.mpr m1) rfl))
  have Xe1 := Exa.start v7 m6
  have Ye1 : Fld s s.heap e1 "com/example/campo_grande/campogrande/SignatureAlgorithm" "digestLength" "I" (.int (20 : Int32)) := Fld.start ((fld_at v7).symm.trans (Cond.eq_int (Cond.before_iff.mpr m7) rfl))
  have Xe2 := Exa.start v8 m2
  have Ye2 : Fld s s.heap e2 "com/example/campo_grande/campogrande/SignatureAlgorithm" "digestLength" "I" (.int (16 : Int32)) := Fld.start ((fld_at v8).symm.trans (Cond.eq_int (Cond.before_iff.mpr m3) rfl))
  have hew : EW s #[(.int i0), (.int i1), (.int i2), (.int i3), (.int i4)] consts_1 := (EW.cons (hw _ (List.mem_of_getElem? (i := 76) rfl)) (by decide) (EW.cons (hw _ (List.mem_of_getElem? (i := 81) rfl)) (by decide) (EW.cons (hw _ (List.mem_of_getElem? (i := 17) rfl)) (by decide) EW.nil)))
  have G : Gl s #[(.int i0), (.int i1), (.int i2), (.int i3), (.int i4)] zC fS e0 e1 e2 := ⟨hw, hew, S1, c1, S2, c2, S6, S7, S8, Xe0, Ye0, Xe1, Ye1, Xe2, Ye2, trivial⟩
  have hch : CHv s consts_1 s.vm s.heap := CHv.start hew (fun p hp => hcalls.1 p hp) (hsets _ (List.mem_of_getElem? (i := 2) rfl)) (hw _ (List.mem_of_getElem? (i := 20) rfl)) (hw _ (List.mem_of_getElem? (i := 19) rfl))
  obtain ⟨n, o, h1, h2, h3, v, L, B', rfl, N, -, -, -, -, -, rfl, hq⟩ := c_law (l := l) (B := fun x => Bk s consts_1 s.vm s.heap x) G ⟨⟨Nat.le_refl _, fun _ _ q => q⟩, fun x r => by obtain ⟨cell, q⟩ := r.there; exact (Array.getElem?_eq_some_iff.mp q).1⟩ p e ha hc hk s m _ below hf ((Spec.applies_iff_loose hf).mp happ).1 ⟨rfl, State.Warmed39.refl s, rfl, hch, fun x r => r⟩ trivial
  refine ⟨n, _, h1, h2, h3, hpost _ _ _ _ _ _ ⟨Cond.after_iff.mpr rfl, Cond.after_iff.mpr (eq_i res_at (Term.int_eval (1)) rfl), trivial⟩ ⟨hq.1, hq.2.1, hq.2.2.1, (hq.2.2.2.sift fun y hy => Or.inr (N y hy)).mono (by decide) (by decide)⟩⟩
theorem main_1_1 : Claimed_1_1 := comes_1 fun _ _ _ _ _ _ h hF => ⟨h.1, hF⟩
theorem main_1_2 : Claimed_1_2 := comes_1 fun _ _ _ _ _ _ h hF => ⟨h.2.1, hF⟩
end Jvm.Pilot.@@N@@
namespace Jvm.Pilot.@@N@@
open Jvm Jvm.ClassFile Sem Op Lib Jvm.Free Jvm.Stand Jvm.Pilot.@@N@@.Jvm.D
/-! MADE BY PROGRAM (witnessworld.py) out of the Statement's table words and the real class files: 24 classes; the members and pool entries that the words name. The judged class is class 1, her method 1. -/
namespace start1
open Jvm.ClassFile
def u (s : String) : CpInfo := .utf8 (stringToUtf16 s)
/-- a pool by its gaps: so many unusable entries, then the entry; so many at the end -/
def gap : Nat → List CpInfo → List CpInfo
  | 0, r => r
  | n + 1, r => .unusable :: gap n r
def poolList (es : List (Nat × CpInfo)) (last : Nat) : List CpInfo := es.foldr (fun e r => gap e.1 (e.2 :: r)) (gap last [])
def pool (es : List (Nat × CpInfo)) (last : Nat) : Array CpInfo := ⟨poolList es last⟩
def fileOf (pool : Array CpInfo) (this : Nat) (attrs : Array Attribute := #[]) (ms : Array MethodInfo := #[]) (fl : Nat := 33) (sup : Nat := 0) (ifs : Array Nat := #[]) (fds : Array FieldInfo := #[]) : ClassFile where
  minorVersion := 0
  majorVersion := 65
  constantPool := pool
  accessFlags := fl
  thisClass := this
  superClass := sup
  interfaces := ifs
  fields := fds
  methods := ms
  attributes := attrs
def plain (name : String) (sup : Option ClassId) : Class where
  name := name
  kind := .ordinary
  loader := none
  accessFlags := 33
  super := sup
  interfaces := #[]
  cf := none
  fields := #[]
  methods := #[]
  instanceTypes := #[]
  staticTypes := #[]
  resolved := #[]
  callSites := []
  init := .initialized
  statics := none
  mirror := none

def pool0 : Array CpInfo := pool [(5, u "<init>"), (0, u "()V"), (1, .class_ 10), (1, u "java/lang/Object")] 113

def k0c0 : Code := { maxStack := 0, maxLocals := 1, code := object_method_1_code, exceptionTable := #[], attributes := #[] }
def k0m0 : Method := { name := "<init>", desc := "()V", sig := { parameters := [], returnType := none }, accessFlags := 1, code := some k0c0 }
/-- java/lang/Object -/
def k0 : Class := { plain "java/lang/Object" none with
  accessFlags := 33
  interfaces := #[]
  cf := some (fileOf pool0 8 #[] #[{ accessFlags := 1, nameIndex := 5, descriptorIndex := 6, attributes := #[] }] 33 0 #[] #[])
  fields := #[]
  methods := #[k0m0]
  instanceTypes := #[]
  staticTypes := #[]
  resolved := Array.replicate 124 none
  statics := none }

def pool1 : Array CpInfo := pool [(2, .class_ 4), (1, u "java/lang/Object"), (0, u "<init>"), (0, u "()V"), (0, .class_ 8), (0, u "com/example/campo_grande/campogrande/ContentKey"), (0, .integer 2147483647), (0, .methodref 11 12), (0, .class_ 13), (0, .nameAndType 14 15), (0, u "com/example/campo_grande/campogrande/PayloadDigestNamesPinLaw"), (0, u "alg"), (0, u "(I)Lcom/example/campo_grande/campogrande/SignatureAlgorithm;"), (0, .methodref 11 17), (0, .nameAndType 18 19), (0, u "sig"), (0, u "(IIIII)Ljava/lang/String;"), (0, .methodref 7 21), (0, .nameAndType 5 22), (0, u "(ILcom/example/campo_grande/campogrande/SignatureAlgorithm;Ljava/lang/String;I)V"), (0, .class_ 24), (0, u "com/example/campo_grande/campogrande/PayloadDigest"), (0, .methodref 23 26), (0, .nameAndType 5 27), (0, u "(Lcom/example/campo_grande/campogrande/SignatureAlgorithm;Ljava/lang/String;)V"), (0, .methodref 23 29), (0, .nameAndType 30 31), (0, u "names"), (0, u "(Lcom/example/campo_grande/campogrande/ContentKey;)Z"), (0, .fieldref 33 34), (0, .class_ 35), (0, .nameAndType 36 37), (0, u "com/example/campo_grande/campogrande/SignatureAlgorithm"), (0, u "SHA256"), (0, u "Lcom/example/campo_grande/campogrande/SignatureAlgorithm;"), (0, .fieldref 33 39), (0, .nameAndType 40 37), (0, u "SHA1"), (0, .fieldref 33 42), (0, .nameAndType 43 37), (0, u "MD5"), (0, .string 45), (0, u "0123456789abcdef"), (0, .methodref 47 48), (0, .class_ 49), (0, .nameAndType 50 51), (0, u "java/lang/String"), (0, u "charAt"), (0, u "(I)C"), (0, .methodref 11 53), (0, .nameAndType 54 51), (0, u "hex"), (0, .methodref 47 56), (0, .nameAndType 5 57), (0, u "([C)V"), (2, u "law"), (0, u "(IIIII)Z")] 3

def k1m0 : Method := { name := "<init>", desc := "()V", sig := { parameters := [], returnType := none }, accessFlags := 1, code := none }
def k1c1 : Code := { maxStack := 9, maxLocals := 18, code := code, exceptionTable := #[], attributes := #[] }
def k1m1 : Method := { name := "law", desc := "(IIIII)Z", sig := { parameters := [.int, .int, .int, .int, .int], returnType := some .boolean }, accessFlags := 9, code := some k1c1 }
def k1c2 : Code := { maxStack := 2, maxLocals := 1, code := method_3_code, exceptionTable := #[], attributes := #[] }
def k1m2 : Method := { name := "alg", desc := "(I)Lcom/example/campo_grande/campogrande/SignatureAlgorithm;", sig := { parameters := [.int], returnType := some (.object "com/example/campo_grande/campogrande/SignatureAlgorithm") }, accessFlags := 10, code := some k1c2 }
def k1c3 : Code := { maxStack := 3, maxLocals := 1, code := method_4_code, exceptionTable := #[], attributes := #[] }
def k1m3 : Method := { name := "hex", desc := "(I)C", sig := { parameters := [.int], returnType := some .char }, accessFlags := 10, code := some k1c3 }
def k1c4 : Code := { maxStack := 6, maxLocals := 9, code := method_5_code, exceptionTable := #[], attributes := #[] }
def k1m4 : Method := { name := "sig", desc := "(IIIII)Ljava/lang/String;", sig := { parameters := [.int, .int, .int, .int, .int], returnType := some (.object "java/lang/String") }, accessFlags := 10, code := some k1c4 }
/-- com/example/campo_grande/campogrande/PayloadDigestNamesPinLaw -/
def k1 : Class := { plain "com/example/campo_grande/campogrande/PayloadDigestNamesPinLaw" (some 0) with
  accessFlags := 49
  interfaces := #[]
  cf := some (fileOf pool1 11 #[] #[{ accessFlags := 1, nameIndex := 5, descriptorIndex := 6, attributes := #[] }, { accessFlags := 9, nameIndex := 60, descriptorIndex := 61, attributes := #[] }, { accessFlags := 10, nameIndex := 14, descriptorIndex := 15, attributes := #[] }, { accessFlags := 10, nameIndex := 54, descriptorIndex := 51, attributes := #[] }, { accessFlags := 10, nameIndex := 18, descriptorIndex := 19, attributes := #[] }] 49 2 #[] #[])
  fields := #[]
  methods := #[k1m0, k1m1, k1m2, k1m3, k1m4]
  instanceTypes := #[]
  staticTypes := #[]
  resolved := Array.replicate 65 none
  statics := none }

def pool2 : Array CpInfo := pool [(1, .methodref 2 3), (0, .class_ 4), (0, .nameAndType 5 6), (0, u "java/lang/Object"), (0, u "<init>"), (0, u "()V"), (0, .string 8), (0, u "algorithm"), (0, .methodref 10 11), (0, .class_ 12), (0, .nameAndType 13 14), (0, u "java/util/Objects"), (0, u "requireNonNull"), (0, u "(Ljava/lang/Object;Ljava/lang/String;)Ljava/lang/Object;"), (0, .string 16), (0, u "signature"), (3, .class_ 22), (1, u "com/example/campo_grande/campogrande/ContentKey"), (2, .methodref 26 27), (0, .class_ 28), (0, .nameAndType 29 30), (0, u "com/example/campo_grande/campogrande/SignatureAlgorithm"), (0, u "isSignature"), (0, u "(Ljava/lang/String;)Z"), (16, .fieldref 20 48), (0, .nameAndType 49 50), (0, u "volume"), (0, u "I"), (0, .fieldref 20 52), (0, .nameAndType 8 53), (0, u "Lcom/example/campo_grande/campogrande/SignatureAlgorithm;"), (0, .fieldref 20 55), (0, .nameAndType 16 56), (0, u "Ljava/lang/String;"), (0, .fieldref 20 58), (0, .nameAndType 59 50), (0, u "overflow"), (32, u "(ILcom/example/campo_grande/campogrande/SignatureAlgorithm;Ljava/lang/String;I)V"), (45, u "getAlgorithm"), (0, u "()Lcom/example/campo_grande/campogrande/SignatureAlgorithm;"), (0, u "getSignature"), (0, u "()Ljava/lang/String;")] 34

def k2c0 : Code := { maxStack := 2, maxLocals := 5, code := prog_13_method_1_code, exceptionTable := #[], attributes := #[] }
def k2m0 : Method := { name := "<init>", desc := "(ILcom/example/campo_grande/campogrande/SignatureAlgorithm;Ljava/lang/String;I)V", sig := { parameters := [.int, (.object "com/example/campo_grande/campogrande/SignatureAlgorithm"), (.object "java/lang/String"), .int], returnType := none }, accessFlags := 1, code := some k2c0 }
def k2c1 : Code := { maxStack := 1, maxLocals := 1, code := prog_13_method_6_code, exceptionTable := #[], attributes := #[] }
def k2m1 : Method := { name := "getAlgorithm", desc := "()Lcom/example/campo_grande/campogrande/SignatureAlgorithm;", sig := { parameters := [], returnType := some (.object "com/example/campo_grande/campogrande/SignatureAlgorithm") }, accessFlags := 1, code := some k2c1 }
def k2c2 : Code := { maxStack := 1, maxLocals := 1, code := prog_13_method_7_code, exceptionTable := #[], attributes := #[] }
def k2m2 : Method := { name := "getSignature", desc := "()Ljava/lang/String;", sig := { parameters := [], returnType := some (.object "java/lang/String") }, accessFlags := 1, code := some k2c2 }
/-- com/example/campo_grande/campogrande/ContentKey -/
def k2 : Class := { plain "com/example/campo_grande/campogrande/ContentKey" (some 0) with
  accessFlags := 49
  interfaces := #[]
  cf := some (fileOf pool2 20 #[] #[{ accessFlags := 1, nameIndex := 5, descriptorIndex := 92, attributes := #[] }, { accessFlags := 1, nameIndex := 138, descriptorIndex := 139, attributes := #[] }, { accessFlags := 1, nameIndex := 140, descriptorIndex := 141, attributes := #[] }] 49 2 #[] #[{ accessFlags := 18, nameIndex := 49, descriptorIndex := 50, attributes := #[] }, { accessFlags := 18, nameIndex := 8, descriptorIndex := 53, attributes := #[] }, { accessFlags := 18, nameIndex := 16, descriptorIndex := 56, attributes := #[] }, { accessFlags := 18, nameIndex := 59, descriptorIndex := 50, attributes := #[] }])
  fields := #[{ name := "volume", type := .int, accessFlags := 18, slot := 0, constantValue := 0 }, { name := "algorithm", type := (.object "com/example/campo_grande/campogrande/SignatureAlgorithm"), accessFlags := 18, slot := 1, constantValue := 0 }, { name := "signature", type := (.object "java/lang/String"), accessFlags := 18, slot := 2, constantValue := 0 }, { name := "overflow", type := .int, accessFlags := 18, slot := 3, constantValue := 0 }]
  methods := #[k2m0, k2m1, k2m2]
  instanceTypes := #[.int, (.object "com/example/campo_grande/campogrande/SignatureAlgorithm"), (.object "java/lang/String"), .int]
  staticTypes := #[]
  resolved := Array.replicate 176 none
  statics := none }

def pool3 : Array CpInfo := pool [(1, .class_ 2), (0, u "java/lang/constant/Constable"), (0, .class_ 4), (0, u "java/lang/Object")] 6

/-- java/lang/constant/Constable -/
def k3 : Class := { plain "java/lang/constant/Constable" (some 0) with
  accessFlags := 1537
  interfaces := #[]
  cf := some (fileOf pool3 1 #[] #[] 1537 3 #[] #[])
  fields := #[]
  methods := #[]
  instanceTypes := #[]
  staticTypes := #[]
  resolved := Array.replicate 11 none
  statics := none }

def pool4 : Array CpInfo := pool [(1, .class_ 2), (0, u "java/lang/Comparable"), (0, .class_ 4), (0, u "java/lang/Object")] 7

/-- java/lang/Comparable -/
def k4 : Class := { plain "java/lang/Comparable" (some 0) with
  accessFlags := 1537
  interfaces := #[]
  cf := some (fileOf pool4 1 #[] #[] 1537 3 #[] #[])
  fields := #[]
  methods := #[]
  instanceTypes := #[]
  staticTypes := #[]
  resolved := Array.replicate 12 none
  statics := none }

def pool5 : Array CpInfo := pool [(1, .class_ 2), (0, u "java/io/Serializable"), (0, .class_ 4), (0, u "java/lang/Object")] 2

/-- java/io/Serializable -/
def k5 : Class := { plain "java/io/Serializable" (some 0) with
  accessFlags := 1537
  interfaces := #[]
  cf := some (fileOf pool5 1 #[] #[] 1537 3 #[] #[])
  fields := #[]
  methods := #[]
  instanceTypes := #[]
  staticTypes := #[]
  resolved := Array.replicate 7 none
  statics := none }

def pool6 : Array CpInfo := pool [(2, .class_ 4), (1, u "java/lang/Enum"), (0, u "name"), (0, u "Ljava/lang/String;"), (2, u "ordinal"), (0, u "I"), (1, .class_ 14), (1, u "java/lang/Object"), (4, u "hash"), (86, .class_ 108), (1, u "java/lang/Enum$EnumDesc"), (2, .class_ 112), (0, u "java/lang/constant/Constable"), (0, .class_ 114), (0, u "java/lang/Comparable"), (0, .class_ 116), (0, u "java/io/Serializable")] 87

/-- java/lang/Enum -/
def k6 : Class := { plain "java/lang/Enum" (some 0) with
  accessFlags := 1057
  interfaces := #[3, 4, 5]
  cf := some (fileOf pool6 2 #[.nestMembers #[106]] #[] 1057 12 #[111, 113, 115] #[{ accessFlags := 18, nameIndex := 5, descriptorIndex := 6, attributes := #[] }, { accessFlags := 18, nameIndex := 9, descriptorIndex := 10, attributes := #[] }, { accessFlags := 2, nameIndex := 19, descriptorIndex := 10, attributes := #[] }])
  fields := #[{ name := "name", type := (.object "java/lang/String"), accessFlags := 18, slot := 0, constantValue := 0 }, { name := "ordinal", type := .int, accessFlags := 18, slot := 1, constantValue := 0 }, { name := "hash", type := .int, accessFlags := 2, slot := 2, constantValue := 0 }]
  methods := #[]
  instanceTypes := #[(.object "java/lang/String"), .int, .int]
  staticTypes := #[]
  resolved := Array.replicate 204 none
  statics := none }

def pool7 : Array CpInfo := pool [(1, .class_ 2), (0, u "com/example/campo_grande/campogrande/SignatureAlgorithm"), (2, u "SHA256"), (0, u "Lcom/example/campo_grande/campogrande/SignatureAlgorithm;"), (2, u "SHA1"), (2, u "MD5"), (2, u "$VALUES"), (0, u "[Lcom/example/campo_grande/campogrande/SignatureAlgorithm;"), (6, .class_ 25), (1, u "java/lang/Enum"), (8, u "text"), (0, u "Ljava/lang/String;"), (2, u "javaName"), (0, .fieldref 1 40), (0, .nameAndType 41 42), (0, u "digestLength"), (0, u "I"), (5, .class_ 50), (1, u "java/lang/String"), (9, .methodref 48 61), (0, .nameAndType 62 63), (0, u "length"), (0, u "()I"), (0, .methodref 48 65), (0, .nameAndType 66 67), (0, u "charAt"), (0, u "(I)C"), (66, u "isSignature"), (0, u "(Ljava/lang/String;)Z")] 27

def k7c0 : Code := { maxStack := 3, maxLocals := 4, code := prog_25_method_6_code, exceptionTable := #[], attributes := #[] }
def k7m0 : Method := { name := "isSignature", desc := "(Ljava/lang/String;)Z", sig := { parameters := [(.object "java/lang/String")], returnType := some .boolean }, accessFlags := 1, code := some k7c0 }
/-- com/example/campo_grande/campogrande/SignatureAlgorithm -/
def k7 : Class := { plain "com/example/campo_grande/campogrande/SignatureAlgorithm" (some 6) with
  accessFlags := 16433
  interfaces := #[]
  cf := some (fileOf pool7 1 #[] #[{ accessFlags := 1, nameIndex := 134, descriptorIndex := 135, attributes := #[] }] 16433 23 #[] #[{ accessFlags := 16409, nameIndex := 5, descriptorIndex := 6, attributes := #[] }, { accessFlags := 16409, nameIndex := 9, descriptorIndex := 6, attributes := #[] }, { accessFlags := 16409, nameIndex := 12, descriptorIndex := 6, attributes := #[] }, { accessFlags := 18, nameIndex := 34, descriptorIndex := 35, attributes := #[] }, { accessFlags := 18, nameIndex := 38, descriptorIndex := 35, attributes := #[] }, { accessFlags := 18, nameIndex := 41, descriptorIndex := 42, attributes := #[] }, { accessFlags := 4122, nameIndex := 15, descriptorIndex := 16, attributes := #[] }])
  fields := #[{ name := "SHA256", type := (.object "com/example/campo_grande/campogrande/SignatureAlgorithm"), accessFlags := 16409, slot := 0, constantValue := 0 }, { name := "SHA1", type := (.object "com/example/campo_grande/campogrande/SignatureAlgorithm"), accessFlags := 16409, slot := 1, constantValue := 0 }, { name := "MD5", type := (.object "com/example/campo_grande/campogrande/SignatureAlgorithm"), accessFlags := 16409, slot := 2, constantValue := 0 }, { name := "text", type := (.object "java/lang/String"), accessFlags := 18, slot := 3, constantValue := 0 }, { name := "javaName", type := (.object "java/lang/String"), accessFlags := 18, slot := 4, constantValue := 0 }, { name := "digestLength", type := .int, accessFlags := 18, slot := 5, constantValue := 0 }, { name := "$VALUES", type := (.array (.object "com/example/campo_grande/campogrande/SignatureAlgorithm")), accessFlags := 4122, slot := 3, constantValue := 0 }]
  methods := #[k7m0]
  instanceTypes := #[(.object "java/lang/String"), .int, .int, (.object "java/lang/String"), (.object "java/lang/String"), .int]
  staticTypes := #[(.object "com/example/campo_grande/campogrande/SignatureAlgorithm"), (.object "com/example/campo_grande/campogrande/SignatureAlgorithm"), (.object "com/example/campo_grande/campogrande/SignatureAlgorithm"), (.array (.object "com/example/campo_grande/campogrande/SignatureAlgorithm"))]
  resolved := Array.replicate 163 none
  statics := some 0 }

def pool8 : Array CpInfo := pool [(2, .class_ 4), (1, u "java/lang/CharSequence"), (42, .class_ 48), (0, u "java/lang/CharSequence$1CodePointIterator"), (10, .class_ 60), (0, u "java/lang/CharSequence$1CharIterator"), (5, .class_ 67), (0, u "java/lang/Object")] 63

/-- java/lang/CharSequence -/
def k8 : Class := { plain "java/lang/CharSequence" (some 0) with
  accessFlags := 1537
  interfaces := #[]
  cf := some (fileOf pool8 2 #[.nestMembers #[47, 59]] #[] 1537 66 #[] #[])
  fields := #[]
  methods := #[]
  instanceTypes := #[]
  staticTypes := #[]
  resolved := Array.replicate 131 none
  statics := none }

def pool9 : Array CpInfo := pool [(1, .class_ 2), (0, u "java/lang/constant/ConstantDesc"), (0, .class_ 4), (0, u "java/lang/Object")] 32

/-- java/lang/constant/ConstantDesc -/
def k9 : Class := { plain "java/lang/constant/ConstantDesc" (some 0) with
  accessFlags := 1537
  interfaces := #[]
  cf := some (fileOf pool9 1 #[] #[] 1537 3 #[] #[])
  fields := #[]
  methods := #[]
  instanceTypes := #[]
  staticTypes := #[]
  resolved := Array.replicate 37 none
  statics := none }

def pool10 : Array CpInfo := pool [(1, .methodref 2 3), (0, .class_ 4), (0, .nameAndType 5 6), (0, u "java/lang/Object"), (0, u "<init>"), (0, u "()V"), (2, .fieldref 10 11), (0, .class_ 12), (0, .nameAndType 13 14), (0, u "java/lang/String"), (0, u "value"), (0, u "[B"), (0, .fieldref 10 16), (0, .nameAndType 17 18), (0, u "coder"), (0, u "B"), (2, u "hash"), (0, u "I"), (2, u "hashIsZero"), (0, u "Z"), (0, .methodref 10 28), (0, .nameAndType 5 29), (0, u "([CIILjava/lang/Void;)V"), (8, .fieldref 10 39), (0, .nameAndType 40 26), (0, u "COMPACT_STRINGS"), (1, .class_ 44), (1, u "java/lang/StringUTF16"), (0, u "compress"), (1, .methodref 42 48), (0, .nameAndType 49 50), (0, u "coderFromArrayLen"), (0, u "([BI)B"), (56, .class_ 109), (1, u "java/lang/StringLatin1"), (32, u "()Z"), (34, .methodref 42 178), (0, .nameAndType 45 179), (0, u "([CII)[B"), (154, u "()I"), (0, .methodref 10 336), (0, .nameAndType 17 337), (0, u "()B"), (25, u "([BI)C"), (27, u "(II)V"), (35, u "(I)C"), (64, .methodref 10 493), (0, .nameAndType 494 142), (0, u "isLatin1"), (0, .methodref 107 496), (0, .nameAndType 497 363), (0, u "charAt"), (3, u "checkIndex"), (5, u "length"), (33, .methodref 107 542), (0, .nameAndType 543 544), (0, u "equals"), (0, u "([B[B)Z"), (28, u "(Ljava/lang/Object;)Z"), (1, .class_ 576), (0, u "java/lang/CharSequence"), (22, u "CASE_INSENSITIVE_ORDER"), (0, u "Ljava/util/Comparator;"), (409, u "([C)V"), (42, .fieldref 1054 1055), (0, .class_ 1056), (0, .nameAndType 1057 1058), (0, u "jdk/internal/util/Preconditions"), (0, u "SIOOBE_FORMATTER"), (0, u "Ljava/util/function/BiFunction;"), (0, .methodref 1054 1060), (0, .nameAndType 501 1061), (0, u "(IILjava/util/function/BiFunction;)I"), (39, u "serialPersistentFields"), (0, u "[Ljava/io/ObjectStreamField;"), (0, .class_ 1104), (0, u "java/lang/String$CaseInsensitiveComparator"), (1, .class_ 1107), (0, u "java/io/Serializable"), (0, .class_ 1109), (0, u "java/lang/Comparable"), (0, .class_ 1111), (0, u "java/lang/constant/Constable"), (0, .class_ 1113), (0, u "java/lang/constant/ConstantDesc"), (2, u "serialVersionUID"), (0, u "J"), (3, u "REPL"), (0, u "C"), (2, u "LATIN1"), (1, u "UTF16")] 323

def k10m0 : Method := { name := "<init>", desc := "()V", sig := { parameters := [], returnType := none }, accessFlags := 1, code := none }
def k10c1 : Code := { maxStack := 5, maxLocals := 2, code := jdk_42_method_3_code, exceptionTable := #[], attributes := #[] }
def k10m1 : Method := { name := "<init>", desc := "([C)V", sig := { parameters := [(.array .char)], returnType := none }, accessFlags := 1, code := some k10c1 }
def k10c2 : Code := { maxStack := 2, maxLocals := 1, code := jdk_42_method_54_code, exceptionTable := #[], attributes := #[] }
def k10m2 : Method := { name := "length", desc := "()I", sig := { parameters := [], returnType := some .int }, accessFlags := 1, code := some k10c2 }
def k10c3 : Code := { maxStack := 2, maxLocals := 2, code := jdk_42_method_56_code, exceptionTable := #[], attributes := #[] }
def k10m3 : Method := { name := "charAt", desc := "(I)C", sig := { parameters := [.int], returnType := some .char }, accessFlags := 1, code := some k10c3 }
def k10c4 : Code := { maxStack := 2, maxLocals := 3, code := jdk_42_method_66_code, exceptionTable := #[], attributes := #[] }
def k10m4 : Method := { name := "equals", desc := "(Ljava/lang/Object;)Z", sig := { parameters := [(.object "java/lang/Object")], returnType := some .boolean }, accessFlags := 1, code := some k10c4 }
def k10c5 : Code := { maxStack := 4, maxLocals := 6, code := jdk_42_method_149_code, exceptionTable := #[], attributes := #[] }
def k10m5 : Method := { name := "<init>", desc := "([CIILjava/lang/Void;)V", sig := { parameters := [(.array .char), .int, .int, (.object "java/lang/Void")], returnType := none }, accessFlags := 2, code := some k10c5 }
def k10c6 : Code := { maxStack := 1, maxLocals := 1, code := jdk_42_method_152_code, exceptionTable := #[], attributes := #[] }
def k10m6 : Method := { name := "coder", desc := "()B", sig := { parameters := [], returnType := some .byte }, accessFlags := 0, code := some k10c6 }
def k10c7 : Code := { maxStack := 1, maxLocals := 1, code := jdk_42_method_154_code, exceptionTable := #[], attributes := #[] }
def k10m7 : Method := { name := "isLatin1", desc := "()Z", sig := { parameters := [], returnType := some .boolean }, accessFlags := 0, code := some k10c7 }
def k10c8 : Code := { maxStack := 3, maxLocals := 2, code := jdk_42_method_155_code, exceptionTable := #[], attributes := #[] }
def k10m8 : Method := { name := "checkIndex", desc := "(II)V", sig := { parameters := [.int, .int], returnType := none }, accessFlags := 8, code := some k10c8 }
/-- java/lang/String -/
def k10 : Class := { plain "java/lang/String" (some 0) with
  accessFlags := 49
  interfaces := #[5, 4, 8, 3, 9]
  cf := some (fileOf pool10 10 #[.nestMembers #[1103]] #[{ accessFlags := 1, nameIndex := 5, descriptorIndex := 6, attributes := #[] }, { accessFlags := 1, nameIndex := 5, descriptorIndex := 1010, attributes := #[] }, { accessFlags := 1, nameIndex := 507, descriptorIndex := 334, attributes := #[] }, { accessFlags := 1, nameIndex := 497, descriptorIndex := 427, attributes := #[] }, { accessFlags := 1, nameIndex := 543, descriptorIndex := 573, attributes := #[] }, { accessFlags := 2, nameIndex := 5, descriptorIndex := 29, attributes := #[] }, { accessFlags := 0, nameIndex := 17, descriptorIndex := 337, attributes := #[] }, { accessFlags := 0, nameIndex := 494, descriptorIndex := 142, attributes := #[] }, { accessFlags := 8, nameIndex := 501, descriptorIndex := 391, attributes := #[] }] 49 2 #[1106, 1108, 575, 1110, 1112] #[{ accessFlags := 18, nameIndex := 13, descriptorIndex := 14, attributes := #[] }, { accessFlags := 18, nameIndex := 17, descriptorIndex := 18, attributes := #[] }, { accessFlags := 2, nameIndex := 21, descriptorIndex := 22, attributes := #[] }, { accessFlags := 2, nameIndex := 25, descriptorIndex := 26, attributes := #[] }, { accessFlags := 26, nameIndex := 1116, descriptorIndex := 1117, attributes := #[] }, { accessFlags := 24, nameIndex := 40, descriptorIndex := 26, attributes := #[] }, { accessFlags := 26, nameIndex := 1101, descriptorIndex := 1102, attributes := #[] }, { accessFlags := 26, nameIndex := 1121, descriptorIndex := 1122, attributes := #[] }, { accessFlags := 25, nameIndex := 599, descriptorIndex := 600, attributes := #[] }, { accessFlags := 24, nameIndex := 1125, descriptorIndex := 18, attributes := #[] }, { accessFlags := 24, nameIndex := 1127, descriptorIndex := 18, attributes := #[] }])
  fields := #[{ name := "value", type := (.array .byte), accessFlags := 18, slot := 0, constantValue := 0 }, { name := "coder", type := .byte, accessFlags := 18, slot := 1, constantValue := 0 }, { name := "hash", type := .int, accessFlags := 2, slot := 2, constantValue := 0 }, { name := "hashIsZero", type := .boolean, accessFlags := 2, slot := 3, constantValue := 0 }, { name := "serialVersionUID", type := .long, accessFlags := 26, slot := 0, constantValue := 0 }, { name := "COMPACT_STRINGS", type := .boolean, accessFlags := 24, slot := 1, constantValue := 0 }, { name := "serialPersistentFields", type := (.array (.object "java/io/ObjectStreamField")), accessFlags := 26, slot := 2, constantValue := 0 }, { name := "REPL", type := .char, accessFlags := 26, slot := 3, constantValue := 0 }, { name := "CASE_INSENSITIVE_ORDER", type := (.object "java/util/Comparator"), accessFlags := 25, slot := 4, constantValue := 0 }, { name := "LATIN1", type := .byte, accessFlags := 24, slot := 5, constantValue := 0 }, { name := "UTF16", type := .byte, accessFlags := 24, slot := 6, constantValue := 0 }]
  methods := #[k10m0, k10m1, k10m2, k10m3, k10m4, k10m5, k10m6, k10m7, k10m8]
  instanceTypes := #[(.array .byte), .byte, .int, .boolean]
  staticTypes := #[.long, .boolean, (.array (.object "java/io/ObjectStreamField")), .char, (.object "java/util/Comparator"), .byte, .byte]
  resolved := Array.replicate 1451 none
  statics := some 1 }

def pool11 : Array CpInfo := pool [(1, .class_ 2), (0, u "java/lang/String"), (1, .class_ 6), (1, u "java/lang/Object"), (0, u "<init>"), (0, u "()V"), (0, .methodref 1 10), (0, .nameAndType 11 12), (0, u "checkIndex"), (0, u "(II)V"), (1, .class_ 16), (1, u "java/lang/StringLatin1"), (36, u "([BI)C"), (67, u "$assertionsDisabled"), (0, u "Z"), (98, .class_ 223), (1, u "java/lang/StringLatin1$LinesSpliterator"), (28, u "charAt"), (28, u "equals"), (0, u "([B[B)Z"), (107, .class_ 391), (0, u "java/lang/StringLatin1$CharsSpliterator")] 3

def k11m0 : Method := { name := "<init>", desc := "()V", sig := { parameters := [], returnType := none }, accessFlags := 0, code := none }
def k11c1 : Code := { maxStack := 2, maxLocals := 2, code := jdk_43_method_2_code, exceptionTable := #[], attributes := #[] }
def k11m1 : Method := { name := "charAt", desc := "([BI)C", sig := { parameters := [(.array .byte), .int], returnType := some .char }, accessFlags := 9, code := some k11c1 }
def k11c2 : Code := { maxStack := 3, maxLocals := 3, code := jdk_43_method_13_code, exceptionTable := #[], attributes := #[] }
def k11m2 : Method := { name := "equals", desc := "([B[B)Z", sig := { parameters := [(.array .byte), (.array .byte)], returnType := some .boolean }, accessFlags := 9, code := some k11c2 }
/-- java/lang/StringLatin1 -/
def k11 : Class := { plain "java/lang/StringLatin1" (some 0) with
  accessFlags := 48
  interfaces := #[]
  cf := some (fileOf pool11 14 #[.nestMembers #[390, 221]] #[{ accessFlags := 0, nameIndex := 7, descriptorIndex := 8, attributes := #[] }, { accessFlags := 9, nameIndex := 252, descriptorIndex := 53, attributes := #[] }, { accessFlags := 9, nameIndex := 281, descriptorIndex := 282, attributes := #[] }] 48 4 #[] #[{ accessFlags := 4120, nameIndex := 121, descriptorIndex := 122, attributes := #[] }])
  fields := #[{ name := "$assertionsDisabled", type := .boolean, accessFlags := 4120, slot := 0, constantValue := 0 }]
  methods := #[k11m0, k11m1, k11m2]
  instanceTypes := #[]
  staticTypes := #[.boolean]
  resolved := Array.replicate 395 none
  statics := none }

def pool12 : Array CpInfo := pool [(2, .class_ 4), (1, u "java/lang/Object"), (0, u "<init>"), (0, u "()V"), (17, .class_ 26), (1, u "jdk/internal/util/Preconditions"), (6, u "checkIndex"), (21, .class_ 56), (0, u "jdk/internal/util/Preconditions$4"), (57, .class_ 115), (0, u "jdk/internal/util/Preconditions$1"), (7, u "SIOOBE_FORMATTER"), (0, u "Ljava/util/function/BiFunction;"), (0, .class_ 126), (0, u "jdk/internal/util/Preconditions$2"), (3, u "AIOOBE_FORMATTER"), (0, .class_ 132), (0, u "jdk/internal/util/Preconditions$3"), (3, u "IOOBE_FORMATTER"), (41, u "(IILjava/util/function/BiFunction;)I")] 15

def k12m0 : Method := { name := "<init>", desc := "()V", sig := { parameters := [], returnType := none }, accessFlags := 1, code := none }
def k12c1 : Code := { maxStack := 3, maxLocals := 3, code := jdk_41_method_11_code, exceptionTable := #[], attributes := #[] }
def k12m1 : Method := { name := "checkIndex", desc := "(IILjava/util/function/BiFunction;)I", sig := { parameters := [.int, .int, (.object "java/util/function/BiFunction")], returnType := some .int }, accessFlags := 9, code := some k12c1 }
/-- jdk/internal/util/Preconditions -/
def k12 : Class := { plain "jdk/internal/util/Preconditions" (some 0) with
  accessFlags := 33
  interfaces := #[]
  cf := some (fileOf pool12 24 #[.nestMembers #[55, 131, 125, 114]] #[{ accessFlags := 1, nameIndex := 5, descriptorIndex := 6, attributes := #[] }, { accessFlags := 9, nameIndex := 33, descriptorIndex := 178, attributes := #[] }] 33 2 #[] #[{ accessFlags := 25, nameIndex := 123, descriptorIndex := 124, attributes := #[] }, { accessFlags := 25, nameIndex := 130, descriptorIndex := 124, attributes := #[] }, { accessFlags := 25, nameIndex := 136, descriptorIndex := 124, attributes := #[] }])
  fields := #[{ name := "SIOOBE_FORMATTER", type := (.object "java/util/function/BiFunction"), accessFlags := 25, slot := 0, constantValue := 0 }, { name := "AIOOBE_FORMATTER", type := (.object "java/util/function/BiFunction"), accessFlags := 25, slot := 1, constantValue := 0 }, { name := "IOOBE_FORMATTER", type := (.object "java/util/function/BiFunction"), accessFlags := 25, slot := 2, constantValue := 0 }]
  methods := #[k12m0, k12m1]
  instanceTypes := #[]
  staticTypes := #[(.object "java/util/function/BiFunction"), (.object "java/util/function/BiFunction"), (.object "java/util/function/BiFunction")]
  resolved := Array.replicate 194 none
  statics := some 2 }

def pool13 : Array CpInfo := pool [(6, .class_ 8), (1, u "java/lang/Object"), (0, u "<init>"), (0, u "()V"), (1, .class_ 14), (1, u "java/lang/StringUTF16"), (31, u "$assertionsDisabled"), (0, u "Z"), (13, u "HI_BYTE_SHIFT"), (0, u "I"), (2, u "LO_BYTE_SHIFT"), (49, .methodref 12 116), (0, .nameAndType 117 118), (0, u "compress"), (0, u "([CI[BII)I"), (3, u "([CII)[B"), (138, u "coderFromArrayLen"), (0, u "([BI)B"), (106, .class_ 371), (1, u "java/lang/StringUTF16$LinesSpliterator"), (58, u "MAX_LENGTH"), (196, .class_ 628), (0, u "java/lang/StringUTF16$CodePointsSpliterator"), (0, .class_ 630), (0, u "java/lang/StringUTF16$CharsSpliterator")] 4

def k13m0 : Method := { name := "<init>", desc := "()V", sig := { parameters := [], returnType := none }, accessFlags := 0, code := none }
def k13c1 : Code := { maxStack := 2, maxLocals := 2, code := jdk_52_method_15_code, exceptionTable := #[], attributes := #[] }
def k13m1 : Method := { name := "coderFromArrayLen", desc := "([BI)B", sig := { parameters := [(.array .byte), .int], returnType := some .byte }, accessFlags := 8, code := some k13c1 }
def k13c2 : Code := { maxStack := 5, maxLocals := 6, code := jdk_52_method_16_code, exceptionTable := #[], attributes := #[] }
def k13m2 : Method := { name := "compress", desc := "([CII)[B", sig := { parameters := [(.array .char), .int, .int], returnType := some (.array .byte) }, accessFlags := 9, code := some k13c2 }
def k13c3 : Code := { maxStack := 3, maxLocals := 7, code := jdk_52_method_21_code, exceptionTable := #[], attributes := #[] }
def k13m3 : Method := { name := "compress", desc := "([CI[BII)I", sig := { parameters := [(.array .char), .int, (.array .byte), .int, .int], returnType := some .int }, accessFlags := 9, code := some k13c3 }
/-- java/lang/StringUTF16 -/
def k13 : Class := { plain "java/lang/StringUTF16" (some 0) with
  accessFlags := 48
  interfaces := #[]
  cf := some (fileOf pool13 12 #[.nestMembers #[627, 629, 369]] #[{ accessFlags := 0, nameIndex := 9, descriptorIndex := 10, attributes := #[] }, { accessFlags := 8, nameIndex := 261, descriptorIndex := 262, attributes := #[] }, { accessFlags := 9, nameIndex := 117, descriptorIndex := 122, attributes := #[] }, { accessFlags := 9, nameIndex := 117, descriptorIndex := 118, attributes := #[] }] 48 6 #[] #[{ accessFlags := 26, nameIndex := 61, descriptorIndex := 62, attributes := #[] }, { accessFlags := 26, nameIndex := 65, descriptorIndex := 62, attributes := #[] }, { accessFlags := 24, nameIndex := 430, descriptorIndex := 62, attributes := #[] }, { accessFlags := 4120, nameIndex := 46, descriptorIndex := 47, attributes := #[] }])
  fields := #[{ name := "HI_BYTE_SHIFT", type := .int, accessFlags := 26, slot := 0, constantValue := 0 }, { name := "LO_BYTE_SHIFT", type := .int, accessFlags := 26, slot := 1, constantValue := 0 }, { name := "MAX_LENGTH", type := .int, accessFlags := 24, slot := 2, constantValue := 0 }, { name := "$assertionsDisabled", type := .boolean, accessFlags := 4120, slot := 3, constantValue := 0 }]
  methods := #[k13m0, k13m1, k13m2, k13m3]
  instanceTypes := #[]
  staticTypes := #[.int, .int, .int, .boolean]
  resolved := Array.replicate 635 none
  statics := none }

def pool14 : Array CpInfo := pool [(2, .class_ 4), (1, u "java/lang/Object"), (0, u "<init>"), (0, u "()V"), (35, .class_ 44), (1, u "java/util/Objects"), (0, u "requireNonNull"), (48, u "(Ljava/lang/Object;Ljava/lang/String;)Ljava/lang/Object;")] 89

def k14m0 : Method := { name := "<init>", desc := "()V", sig := { parameters := [], returnType := none }, accessFlags := 2, code := none }
def k14c1 : Code := { maxStack := 3, maxLocals := 2, code := jdk_31_method_11_code, exceptionTable := #[], attributes := #[] }
def k14m1 : Method := { name := "requireNonNull", desc := "(Ljava/lang/Object;Ljava/lang/String;)Ljava/lang/Object;", sig := { parameters := [(.object "java/lang/Object"), (.object "java/lang/String")], returnType := some (.object "java/lang/Object") }, accessFlags := 9, code := some k14c1 }
/-- java/util/Objects -/
def k14 : Class := { plain "java/util/Objects" (some 0) with
  accessFlags := 49
  interfaces := #[]
  cf := some (fileOf pool14 42 #[] #[{ accessFlags := 2, nameIndex := 5, descriptorIndex := 6, attributes := #[] }, { accessFlags := 9, nameIndex := 45, descriptorIndex := 94, attributes := #[] }] 49 2 #[] #[])
  fields := #[]
  methods := #[k14m0, k14m1]
  instanceTypes := #[]
  staticTypes := #[]
  resolved := Array.replicate 184 none
  statics := none }

def pool15 : Array CpInfo := pool [(1, .methodref 2 3), (0, .class_ 4), (0, .nameAndType 5 6), (0, u "java/lang/Object"), (0, u "<init>"), (0, u "()V"), (0, .methodref 8 9), (0, .class_ 10), (0, .nameAndType 11 12), (0, u "com/example/campo_grande/campogrande/SignatureAlgorithm"), (0, u "isSignature"), (0, u "(Ljava/lang/String;)Z"), (3, .class_ 18), (1, u "java/lang/String"), (9, .fieldref 29 30), (0, .class_ 31), (0, .nameAndType 32 33), (0, u "com/example/campo_grande/campogrande/PayloadDigest"), (0, u "algorithm"), (0, u "Lcom/example/campo_grande/campogrande/SignatureAlgorithm;"), (0, .fieldref 29 35), (0, .nameAndType 36 37), (0, u "signature"), (0, u "Ljava/lang/String;"), (38, u "()Ljava/lang/String;"), (2, u "(Lcom/example/campo_grande/campogrande/SignatureAlgorithm;Ljava/lang/String;)V"), (18, .methodref 99 100), (0, .class_ 101), (0, .nameAndType 102 103), (0, u "com/example/campo_grande/campogrande/ContentKey"), (0, u "getAlgorithm"), (0, u "()Lcom/example/campo_grande/campogrande/SignatureAlgorithm;"), (0, .methodref 99 105), (0, .nameAndType 106 76), (0, u "getSignature"), (0, .methodref 16 108), (0, .nameAndType 109 110), (0, u "equals"), (0, u "(Ljava/lang/Object;)Z"), (45, u "BASE32"), (1, u "BITS_PER_DIGIT"), (0, u "I"), (6, u "names"), (0, u "(Lcom/example/campo_grande/campogrande/ContentKey;)Z")] 22

def k15c0 : Code := { maxStack := 3, maxLocals := 3, code := prog_21_method_1_code, exceptionTable := #[], attributes := #[] }
def k15m0 : Method := { name := "<init>", desc := "(Lcom/example/campo_grande/campogrande/SignatureAlgorithm;Ljava/lang/String;)V", sig := { parameters := [(.object "com/example/campo_grande/campogrande/SignatureAlgorithm"), (.object "java/lang/String")], returnType := none }, accessFlags := 0, code := some k15c0 }
def k15c1 : Code := { maxStack := 2, maxLocals := 2, code := prog_21_method_4_code, exceptionTable := #[], attributes := #[] }
def k15m1 : Method := { name := "names", desc := "(Lcom/example/campo_grande/campogrande/ContentKey;)Z", sig := { parameters := [(.object "com/example/campo_grande/campogrande/ContentKey")], returnType := some .boolean }, accessFlags := 0, code := some k15c1 }
/-- com/example/campo_grande/campogrande/PayloadDigest -/
def k15 : Class := { plain "com/example/campo_grande/campogrande/PayloadDigest" (some 0) with
  accessFlags := 48
  interfaces := #[]
  cf := some (fileOf pool15 29 #[] #[{ accessFlags := 0, nameIndex := 5, descriptorIndex := 79, attributes := #[] }, { accessFlags := 0, nameIndex := 166, descriptorIndex := 167, attributes := #[] }] 48 2 #[] #[{ accessFlags := 26, nameIndex := 156, descriptorIndex := 37, attributes := #[] }, { accessFlags := 26, nameIndex := 158, descriptorIndex := 159, attributes := #[] }, { accessFlags := 18, nameIndex := 32, descriptorIndex := 33, attributes := #[] }, { accessFlags := 18, nameIndex := 36, descriptorIndex := 37, attributes := #[] }])
  fields := #[{ name := "BASE32", type := (.object "java/lang/String"), accessFlags := 26, slot := 0, constantValue := 0 }, { name := "BITS_PER_DIGIT", type := .int, accessFlags := 26, slot := 1, constantValue := 0 }, { name := "algorithm", type := (.object "com/example/campo_grande/campogrande/SignatureAlgorithm"), accessFlags := 18, slot := 0, constantValue := 0 }, { name := "signature", type := (.object "java/lang/String"), accessFlags := 18, slot := 1, constantValue := 0 }]
  methods := #[k15m0, k15m1]
  instanceTypes := #[(.object "com/example/campo_grande/campogrande/SignatureAlgorithm"), (.object "java/lang/String")]
  staticTypes := #[(.object "java/lang/String"), .int]
  resolved := Array.replicate 190 none
  statics := none }

def pool16 : Array CpInfo := pool [(9, u "<init>"), (6, .class_ 18), (1, u "java/lang/Object"), (0, u "()V"), (1, .class_ 23), (1, u "jdk/internal/util/ArraysSupport"), (0, u "LOG2_ARRAY_LONG_INDEX_SCALE"), (0, u "I"), (2, u "U"), (0, u "Ljdk/internal/misc/Unsafe;"), (8, u "BIG_ENDIAN"), (0, u "Z"), (8, u "LOG2_BYTE_BIT_SIZE"), (4, u "LOG2_ARRAY_INT_INDEX_SCALE"), (54, u "JLA"), (0, u "Ljdk/internal/access/JavaLangAccess;"), (11, u "LOG2_ARRAY_BOOLEAN_INDEX_SCALE"), (9, u "LOG2_ARRAY_BYTE_INDEX_SCALE"), (5, u "LOG2_ARRAY_CHAR_INDEX_SCALE"), (5, u "LOG2_ARRAY_SHORT_INDEX_SCALE"), (18, u "LOG2_ARRAY_FLOAT_INDEX_SCALE"), (24, u "LOG2_ARRAY_DOUBLE_INDEX_SCALE"), (89, u "T_BOOLEAN"), (2, u "T_CHAR"), (1, u "T_FLOAT"), (1, u "T_DOUBLE"), (1, u "T_BYTE"), (1, u "T_SHORT"), (1, u "T_INT"), (1, u "T_LONG"), (1, u "SOFT_MAX_ARRAY_LENGTH")] 83

def k16m0 : Method := { name := "<init>", desc := "()V", sig := { parameters := [], returnType := none }, accessFlags := 2, code := none }
/-- jdk/internal/util/ArraysSupport -/
def k16 : Class := { plain "jdk/internal/util/ArraysSupport" (some 0) with
  accessFlags := 33
  interfaces := #[]
  cf := some (fileOf pool16 21 #[] #[{ accessFlags := 2, nameIndex := 9, descriptorIndex := 19, attributes := #[] }] 33 16 #[] #[{ accessFlags := 24, nameIndex := 28, descriptorIndex := 29, attributes := #[] }, { accessFlags := 26, nameIndex := 38, descriptorIndex := 39, attributes := #[] }, { accessFlags := 25, nameIndex := 121, descriptorIndex := 25, attributes := #[] }, { accessFlags := 25, nameIndex := 131, descriptorIndex := 25, attributes := #[] }, { accessFlags := 25, nameIndex := 137, descriptorIndex := 25, attributes := #[] }, { accessFlags := 25, nameIndex := 143, descriptorIndex := 25, attributes := #[] }, { accessFlags := 25, nameIndex := 53, descriptorIndex := 25, attributes := #[] }, { accessFlags := 25, nameIndex := 24, descriptorIndex := 25, attributes := #[] }, { accessFlags := 25, nameIndex := 162, descriptorIndex := 25, attributes := #[] }, { accessFlags := 25, nameIndex := 187, descriptorIndex := 25, attributes := #[] }, { accessFlags := 26, nameIndex := 48, descriptorIndex := 25, attributes := #[] }, { accessFlags := 25, nameIndex := 277, descriptorIndex := 25, attributes := #[] }, { accessFlags := 25, nameIndex := 280, descriptorIndex := 25, attributes := #[] }, { accessFlags := 25, nameIndex := 282, descriptorIndex := 25, attributes := #[] }, { accessFlags := 25, nameIndex := 284, descriptorIndex := 25, attributes := #[] }, { accessFlags := 25, nameIndex := 286, descriptorIndex := 25, attributes := #[] }, { accessFlags := 25, nameIndex := 288, descriptorIndex := 25, attributes := #[] }, { accessFlags := 25, nameIndex := 290, descriptorIndex := 25, attributes := #[] }, { accessFlags := 25, nameIndex := 292, descriptorIndex := 25, attributes := #[] }, { accessFlags := 26, nameIndex := 108, descriptorIndex := 109, attributes := #[] }, { accessFlags := 25, nameIndex := 294, descriptorIndex := 25, attributes := #[] }])
  fields := #[{ name := "U", type := (.object "jdk/internal/misc/Unsafe"), accessFlags := 24, slot := 0, constantValue := 0 }, { name := "BIG_ENDIAN", type := .boolean, accessFlags := 26, slot := 1, constantValue := 0 }, { name := "LOG2_ARRAY_BOOLEAN_INDEX_SCALE", type := .int, accessFlags := 25, slot := 2, constantValue := 0 }, { name := "LOG2_ARRAY_BYTE_INDEX_SCALE", type := .int, accessFlags := 25, slot := 3, constantValue := 0 }, { name := "LOG2_ARRAY_CHAR_INDEX_SCALE", type := .int, accessFlags := 25, slot := 4, constantValue := 0 }, { name := "LOG2_ARRAY_SHORT_INDEX_SCALE", type := .int, accessFlags := 25, slot := 5, constantValue := 0 }, { name := "LOG2_ARRAY_INT_INDEX_SCALE", type := .int, accessFlags := 25, slot := 6, constantValue := 0 }, { name := "LOG2_ARRAY_LONG_INDEX_SCALE", type := .int, accessFlags := 25, slot := 7, constantValue := 0 }, { name := "LOG2_ARRAY_FLOAT_INDEX_SCALE", type := .int, accessFlags := 25, slot := 8, constantValue := 0 }, { name := "LOG2_ARRAY_DOUBLE_INDEX_SCALE", type := .int, accessFlags := 25, slot := 9, constantValue := 0 }, { name := "LOG2_BYTE_BIT_SIZE", type := .int, accessFlags := 26, slot := 10, constantValue := 0 }, { name := "T_BOOLEAN", type := .int, accessFlags := 25, slot := 11, constantValue := 0 }, { name := "T_CHAR", type := .int, accessFlags := 25, slot := 12, constantValue := 0 }, { name := "T_FLOAT", type := .int, accessFlags := 25, slot := 13, constantValue := 0 }, { name := "T_DOUBLE", type := .int, accessFlags := 25, slot := 14, constantValue := 0 }, { name := "T_BYTE", type := .int, accessFlags := 25, slot := 15, constantValue := 0 }, { name := "T_SHORT", type := .int, accessFlags := 25, slot := 16, constantValue := 0 }, { name := "T_INT", type := .int, accessFlags := 25, slot := 17, constantValue := 0 }, { name := "T_LONG", type := .int, accessFlags := 25, slot := 18, constantValue := 0 }, { name := "JLA", type := (.object "jdk/internal/access/JavaLangAccess"), accessFlags := 26, slot := 19, constantValue := 0 }, { name := "SOFT_MAX_ARRAY_LENGTH", type := .int, accessFlags := 25, slot := 20, constantValue := 0 }]
  methods := #[k16m0]
  instanceTypes := #[]
  staticTypes := #[(.object "jdk/internal/misc/Unsafe"), .boolean, .int, .int, .int, .int, .int, .int, .int, .int, .int, .int, .int, .int, .int, .int, .int, .int, .int, (.object "jdk/internal/access/JavaLangAccess"), .int]
  resolved := Array.replicate 378 none
  statics := none }

def pool17 : Array CpInfo := pool [(1, u "java/lang/Cloneable"), (0, .class_ 1), (0, u "java/lang/Object"), (0, .class_ 3)] 3

/-- java/lang/Cloneable -/
def k17 : Class := { plain "java/lang/Cloneable" (some 0) with
  accessFlags := 1537
  interfaces := #[]
  cf := some (fileOf pool17 2 #[] #[] 1537 4 #[] #[])
  fields := #[]
  methods := #[]
  instanceTypes := #[]
  staticTypes := #[]
  resolved := Array.replicate 8 none
  statics := none }

/-- the primitive byte -/
def k18 : Class := { plain "byte" none with kind := .primitive 'B', accessFlags := 0x411 }
/-- [B -/
def k19 : Class := { plain "[B" (some 0) with kind := .array 18 .byte, interfaces := #[17, 5], accessFlags := 1041 }

/-- the primitive char -/
def k20 : Class := { plain "char" none with kind := .primitive 'C', accessFlags := 0x411 }
/-- [C -/
def k21 : Class := { plain "[C" (some 0) with kind := .array 20 .char, interfaces := #[17, 5], accessFlags := 1041 }

/-- the primitive int -/
def k22 : Class := { plain "int" none with kind := .primitive 'I', accessFlags := 0x411 }
/-- [I -/
def k23 : Class := { plain "[I" (some 0) with kind := .array 22 .int, interfaces := #[17, 5], accessFlags := 1041 }

def heap : Heap := #[{ cls := 7, slots := #[.ref 3, .ref 4, .ref 5, .null], vm := .statics 7 },
  { cls := 10, slots := #[.long 0, .int 1, .null, .int 0, .null, .int 0, .int 0], vm := .statics 10 },
  { cls := 12, slots := #[.null, .null, .null], vm := .statics 12 },
  { cls := 7, slots := #[.null, .int 0, .int 0, .null, .null, .int 32], vm := .none },
  { cls := 7, slots := #[.null, .int 1, .int 0, .null, .null, .int 20], vm := .none },
  { cls := 7, slots := #[.null, .int 2, .int 0, .null, .null, .int 16], vm := .none }]
def classes : Array Class := #[k0, k1, k2, k3, k4, k5, k6, k7, k8, k9, k10, k11, k12, k13, k14, k15, k16, k17, k18, k19, k20, k21, k22, k23]
def interned : List (Array UInt16 × Addr) := []
def slotsUsed : Nat := 32
def theMethod : MethodId := ⟨1, 1⟩
def args0 : Array Value := #[.int 5, .int 5, .int 5, .int 5, .int 5]
def aboutOver (below : List Frame) : State where
  vm := { classes := classes, interned := interned.toArray }
  heap := heap
  slotsUsed := slotsUsed
  threads := #[{ frames := .invoking theMethod args0 :: below }]
def below0 : List Frame := [.native { method := ⟨0, 0⟩, args := #[] }]
def about1 : State := aboutOver below0
def p0 : Program := .bare "" "" ""
def e0 : Env := launch0.env 0 0 0
theorem w_frames : about1.frames = Frame.invoking theMethod args0 :: below0 := rfl
set_option maxRecDepth 65536 in
theorem w_args : argsFit about1.vm theMethod args0 = true := by decide +kernel
set_option maxRecDepth 65536 in
theorem w_heap : heapFits about1 = true := by decide +kernel
set_option maxRecDepth 65536 in
theorem w_runnable : about1.curStatus? = some .runnable := by decide +kernel
set_option maxRecDepth 65536 in
theorem w_alone : about1.alone = true := by decide +kernel
set_option maxRecDepth 65536 in
theorem w_named : about1.methodNamed? x = some theMethod := by decide +kernel
set_option maxRecDepth 65536 in
theorem w_hears : about1.hears theMethod below0 = true := by decide +kernel
set_option maxRecDepth 65536 in
theorem w_ripe : about1.ripe theMethod args0 below0 = true := by decide +kernel
theorem w_running : about1.status = .running := rfl
set_option maxRecDepth 65536 in
theorem w_room : about1.hasRoom e0.platform room_1 = true :=
  launch0.hasRoom_least _ room_1 (by decide +kernel) (by decide +kernel) (by decide +kernel) (by decide +kernel) (by decide +kernel) (by decide +kernel)
theorem allAtoms_all (ts : List Jvm.Cond) (a : Array Jvm.Value) (st : Jvm.State) : (allAtoms ts).before a st = ts.all (fun c => c.before a st) := by
  induction ts with
  | nil => rfl
  | cons c t ih =>
    show (Jvm.Cond.and c (allAtoms t)).before a st = _
    rw [Jvm.Cond.before_and, ih, List.all_cons]
def words1 : List Jvm.Cond := Jvm.Cond.code x code maxLocals ret :: tables_1
/-- a 'code' word, met by the world's own term for the bytes: nothing is compared byte by byte -/
theorem code_word {y : MethodName} {bytes : ByteArray} {mx : Nat} {rt : Option FieldType} {a : Array Value} {s : State} {m : MethodId} {meth : Method} {c : Code} (h1 : s.methodNamed? y = some m) (h2 : s.vm.method? m = some meth) (h3 : meth.code = some c) (h4 : c.code = bytes)
    (h5 : (c.maxLocals == mx && c.exceptionTable.isEmpty && decide (c.maxStack ≤ mostOperands) && decide (meth.sig.returnType = rt) && !meth.locks && decide (parseMethodDescriptor y.desc = some meth.sig)) = true) : (Jvm.Cond.code y bytes mx rt).before a s = true := by
  simp only [Bool.and_eq_true, beq_iff_eq, Bool.not_eq_true', decide_eq_true_eq] at h5
  obtain ⟨⟨⟨⟨⟨g1, g2⟩, g3⟩, g4⟩, g5⟩, g6⟩ := h5
  simp [Cond.before, Cond.holds, Cond.value, h1, h2, h3, h4, g1, g2, g3, g4, g5, g6]
def isCode : Jvm.Cond → Bool
  | .code _ _ _ _ => true
  | _ => false
theorem all_split {L : List Jvm.Cond} {P : Jvm.Cond → Bool} (h1 : L.all (fun c => isCode c || P c) = true) (h2 : ∀ c ∈ L.filter isCode, P c = true) : L.all P = true := by
  refine List.all_eq_true.mpr fun c hc => ?_
  have h := List.all_eq_true.mp h1 c hc
  rcases Bool.eq_false_or_eq_true (isCode c) with hi | hi
  · exact h2 c (List.mem_filter.mpr ⟨hc, hi⟩)
  · simpa [hi] using h
set_option maxRecDepth 65536 in
theorem w_c0 : (Jvm.Cond.code x code maxLocals ret).before args0 about1 = true := code_word (m := ⟨1, 1⟩) (meth := k1m1) (c := k1c1) (by decide +kernel) rfl rfl rfl (by decide +kernel)
set_option maxRecDepth 65536 in
theorem w_c1 : (Jvm.Cond.code ({ cls := "com/example/campo_grande/campogrande/PayloadDigestNamesPinLaw", name := "alg", desc := "(I)Lcom/example/campo_grande/campogrande/SignatureAlgorithm;" } : Jvm.MethodName) method_3_code (1 : Nat) (Option.some (Jvm.ClassFile.FieldType.object "com/example/campo_grande/campogrande/SignatureAlgorithm"))).before args0 about1 = true := code_word (m := ⟨1, 2⟩) (meth := k1m2) (c := k1c2) (by decide +kernel) rfl rfl rfl (by decide +kernel)
set_option maxRecDepth 65536 in
theorem w_c2 : (Jvm.Cond.code ({ cls := "com/example/campo_grande/campogrande/PayloadDigestNamesPinLaw", name := "sig", desc := "(IIIII)Ljava/lang/String;" } : Jvm.MethodName) method_5_code (9 : Nat) (Option.some (Jvm.ClassFile.FieldType.object "java/lang/String"))).before args0 about1 = true := code_word (m := ⟨1, 4⟩) (meth := k1m4) (c := k1c4) (by decide +kernel) rfl rfl rfl (by decide +kernel)
set_option maxRecDepth 65536 in
theorem w_c3 : (Jvm.Cond.code ({ cls := "com/example/campo_grande/campogrande/PayloadDigestNamesPinLaw", name := "hex", desc := "(I)C" } : Jvm.MethodName) method_4_code (1 : Nat) (Option.some Jvm.ClassFile.FieldType.char)).before args0 about1 = true := code_word (m := ⟨1, 3⟩) (meth := k1m3) (c := k1c3) (by decide +kernel) rfl rfl rfl (by decide +kernel)
set_option maxRecDepth 65536 in
theorem w_c4 : (Jvm.Cond.code ({ cls := "java/lang/String", name := "charAt", desc := "(I)C" } : Jvm.MethodName) jdk_42_method_56_code (2 : Nat) (Option.some Jvm.ClassFile.FieldType.char)).before args0 about1 = true := code_word (m := ⟨10, 3⟩) (meth := k10m3) (c := k10c3) (by decide +kernel) rfl rfl rfl (by decide +kernel)
set_option maxRecDepth 65536 in
theorem w_c5 : (Jvm.Cond.code ({ cls := "java/lang/String", name := "isLatin1", desc := "()Z" } : Jvm.MethodName) jdk_42_method_154_code (1 : Nat) (Option.some Jvm.ClassFile.FieldType.boolean)).before args0 about1 = true := code_word (m := ⟨10, 7⟩) (meth := k10m7) (c := k10c7) (by decide +kernel) rfl rfl rfl (by decide +kernel)
set_option maxRecDepth 65536 in
theorem w_c6 : (Jvm.Cond.code ({ cls := "java/lang/StringLatin1", name := "charAt", desc := "([BI)C" } : Jvm.MethodName) jdk_43_method_2_code (2 : Nat) (Option.some Jvm.ClassFile.FieldType.char)).before args0 about1 = true := code_word (m := ⟨11, 1⟩) (meth := k11m1) (c := k11c1) (by decide +kernel) rfl rfl rfl (by decide +kernel)
set_option maxRecDepth 65536 in
theorem w_c7 : (Jvm.Cond.code ({ cls := "java/lang/String", name := "checkIndex", desc := "(II)V" } : Jvm.MethodName) jdk_42_method_155_code (2 : Nat) (Option.none : Option Jvm.ClassFile.FieldType)).before args0 about1 = true := code_word (m := ⟨10, 8⟩) (meth := k10m8) (c := k10c8) (by decide +kernel) rfl rfl rfl (by decide +kernel)
set_option maxRecDepth 65536 in
theorem w_c8 : (Jvm.Cond.code ({ cls := "jdk/internal/util/Preconditions", name := "checkIndex", desc := "(IILjava/util/function/BiFunction;)I" } : Jvm.MethodName) jdk_41_method_11_code (3 : Nat) (Option.some Jvm.ClassFile.FieldType.int)).before args0 about1 = true := code_word (m := ⟨12, 1⟩) (meth := k12m1) (c := k12c1) (by decide +kernel) rfl rfl rfl (by decide +kernel)
set_option maxRecDepth 65536 in
theorem w_c9 : (Jvm.Cond.code ({ cls := "java/lang/String", name := "<init>", desc := "([C)V" } : Jvm.MethodName) jdk_42_method_3_code (2 : Nat) (Option.none : Option Jvm.ClassFile.FieldType)).before args0 about1 = true := code_word (m := ⟨10, 1⟩) (meth := k10m1) (c := k10c1) (by decide +kernel) rfl rfl rfl (by decide +kernel)
set_option maxRecDepth 65536 in
theorem w_c10 : (Jvm.Cond.code ({ cls := "java/lang/String", name := "<init>", desc := "([CIILjava/lang/Void;)V" } : Jvm.MethodName) jdk_42_method_149_code (6 : Nat) (Option.none : Option Jvm.ClassFile.FieldType)).before args0 about1 = true := code_word (m := ⟨10, 5⟩) (meth := k10m5) (c := k10c5) (by decide +kernel) rfl rfl rfl (by decide +kernel)
set_option maxRecDepth 65536 in
theorem w_c11 : (Jvm.Cond.code ({ cls := "java/lang/Object", name := "<init>", desc := "()V" } : Jvm.MethodName) object_method_1_code (1 : Nat) (Option.none : Option Jvm.ClassFile.FieldType)).before args0 about1 = true := code_word (m := ⟨0, 0⟩) (meth := k0m0) (c := k0c0) (by decide +kernel) rfl rfl rfl (by decide +kernel)
set_option maxRecDepth 65536 in
theorem w_c12 : (Jvm.Cond.code ({ cls := "java/lang/StringUTF16", name := "compress", desc := "([CII)[B" } : Jvm.MethodName) jdk_52_method_16_code (6 : Nat) (Option.some (Jvm.ClassFile.FieldType.array Jvm.ClassFile.FieldType.byte))).before args0 about1 = true := code_word (m := ⟨13, 2⟩) (meth := k13m2) (c := k13c2) (by decide +kernel) rfl rfl rfl (by decide +kernel)
set_option maxRecDepth 65536 in
theorem w_c13 : (Jvm.Cond.code ({ cls := "java/lang/StringUTF16", name := "compress", desc := "([CI[BII)I" } : Jvm.MethodName) jdk_52_method_21_code (7 : Nat) (Option.some Jvm.ClassFile.FieldType.int)).before args0 about1 = true := code_word (m := ⟨13, 3⟩) (meth := k13m3) (c := k13c3) (by decide +kernel) rfl rfl rfl (by decide +kernel)
set_option maxRecDepth 65536 in
theorem w_c14 : (Jvm.Cond.code ({ cls := "java/lang/StringUTF16", name := "coderFromArrayLen", desc := "([BI)B" } : Jvm.MethodName) jdk_52_method_15_code (2 : Nat) (Option.some Jvm.ClassFile.FieldType.byte)).before args0 about1 = true := code_word (m := ⟨13, 1⟩) (meth := k13m1) (c := k13c1) (by decide +kernel) rfl rfl rfl (by decide +kernel)
set_option maxRecDepth 65536 in
theorem w_c15 : (Jvm.Cond.code ({ cls := "com/example/campo_grande/campogrande/ContentKey", name := "<init>", desc := "(ILcom/example/campo_grande/campogrande/SignatureAlgorithm;Ljava/lang/String;I)V" } : Jvm.MethodName) prog_13_method_1_code (5 : Nat) (Option.none : Option Jvm.ClassFile.FieldType)).before args0 about1 = true := code_word (m := ⟨2, 0⟩) (meth := k2m0) (c := k2c0) (by decide +kernel) rfl rfl rfl (by decide +kernel)
set_option maxRecDepth 65536 in
theorem w_c16 : (Jvm.Cond.code ({ cls := "java/util/Objects", name := "requireNonNull", desc := "(Ljava/lang/Object;Ljava/lang/String;)Ljava/lang/Object;" } : Jvm.MethodName) jdk_31_method_11_code (2 : Nat) (Option.some (Jvm.ClassFile.FieldType.object "java/lang/Object"))).before args0 about1 = true := code_word (m := ⟨14, 1⟩) (meth := k14m1) (c := k14c1) (by decide +kernel) rfl rfl rfl (by decide +kernel)
set_option maxRecDepth 65536 in
theorem w_c17 : (Jvm.Cond.code ({ cls := "com/example/campo_grande/campogrande/SignatureAlgorithm", name := "isSignature", desc := "(Ljava/lang/String;)Z" } : Jvm.MethodName) prog_25_method_6_code (4 : Nat) (Option.some Jvm.ClassFile.FieldType.boolean)).before args0 about1 = true := code_word (m := ⟨7, 0⟩) (meth := k7m0) (c := k7c0) (by decide +kernel) rfl rfl rfl (by decide +kernel)
set_option maxRecDepth 65536 in
theorem w_c18 : (Jvm.Cond.code ({ cls := "java/lang/String", name := "length", desc := "()I" } : Jvm.MethodName) jdk_42_method_54_code (1 : Nat) (Option.some Jvm.ClassFile.FieldType.int)).before args0 about1 = true := code_word (m := ⟨10, 2⟩) (meth := k10m2) (c := k10c2) (by decide +kernel) rfl rfl rfl (by decide +kernel)
set_option maxRecDepth 65536 in
theorem w_c19 : (Jvm.Cond.code ({ cls := "java/lang/String", name := "coder", desc := "()B" } : Jvm.MethodName) jdk_42_method_152_code (1 : Nat) (Option.some Jvm.ClassFile.FieldType.byte)).before args0 about1 = true := code_word (m := ⟨10, 6⟩) (meth := k10m6) (c := k10c6) (by decide +kernel) rfl rfl rfl (by decide +kernel)
set_option maxRecDepth 65536 in
theorem w_c20 : (Jvm.Cond.code ({ cls := "com/example/campo_grande/campogrande/PayloadDigest", name := "<init>", desc := "(Lcom/example/campo_grande/campogrande/SignatureAlgorithm;Ljava/lang/String;)V" } : Jvm.MethodName) prog_21_method_1_code (3 : Nat) (Option.none : Option Jvm.ClassFile.FieldType)).before args0 about1 = true := code_word (m := ⟨15, 0⟩) (meth := k15m0) (c := k15c0) (by decide +kernel) rfl rfl rfl (by decide +kernel)
set_option maxRecDepth 65536 in
theorem w_c21 : (Jvm.Cond.code ({ cls := "com/example/campo_grande/campogrande/PayloadDigest", name := "names", desc := "(Lcom/example/campo_grande/campogrande/ContentKey;)Z" } : Jvm.MethodName) prog_21_method_4_code (2 : Nat) (Option.some Jvm.ClassFile.FieldType.boolean)).before args0 about1 = true := code_word (m := ⟨15, 1⟩) (meth := k15m1) (c := k15c1) (by decide +kernel) rfl rfl rfl (by decide +kernel)
set_option maxRecDepth 65536 in
theorem w_c22 : (Jvm.Cond.code ({ cls := "com/example/campo_grande/campogrande/ContentKey", name := "getAlgorithm", desc := "()Lcom/example/campo_grande/campogrande/SignatureAlgorithm;" } : Jvm.MethodName) prog_13_method_6_code (1 : Nat) (Option.some (Jvm.ClassFile.FieldType.object "com/example/campo_grande/campogrande/SignatureAlgorithm"))).before args0 about1 = true := code_word (m := ⟨2, 1⟩) (meth := k2m1) (c := k2c1) (by decide +kernel) rfl rfl rfl (by decide +kernel)
set_option maxRecDepth 65536 in
theorem w_c23 : (Jvm.Cond.code ({ cls := "com/example/campo_grande/campogrande/ContentKey", name := "getSignature", desc := "()Ljava/lang/String;" } : Jvm.MethodName) prog_13_method_7_code (1 : Nat) (Option.some (Jvm.ClassFile.FieldType.object "java/lang/String"))).before args0 about1 = true := code_word (m := ⟨2, 2⟩) (meth := k2m2) (c := k2c2) (by decide +kernel) rfl rfl rfl (by decide +kernel)
set_option maxRecDepth 65536 in
theorem w_c24 : (Jvm.Cond.code ({ cls := "java/lang/String", name := "equals", desc := "(Ljava/lang/Object;)Z" } : Jvm.MethodName) jdk_42_method_66_code (3 : Nat) (Option.some Jvm.ClassFile.FieldType.boolean)).before args0 about1 = true := code_word (m := ⟨10, 4⟩) (meth := k10m4) (c := k10c4) (by decide +kernel) rfl rfl rfl (by decide +kernel)
set_option maxRecDepth 65536 in
theorem w_c25 : (Jvm.Cond.code ({ cls := "java/lang/StringLatin1", name := "equals", desc := "([B[B)Z" } : Jvm.MethodName) jdk_43_method_13_code (3 : Nat) (Option.some Jvm.ClassFile.FieldType.boolean)).before args0 about1 = true := code_word (m := ⟨11, 2⟩) (meth := k11m2) (c := k11c2) (by decide +kernel) rfl rfl rfl (by decide +kernel)
def codes1 : List Jvm.Cond := [Jvm.Cond.code x code maxLocals ret, Jvm.Cond.code ({ cls := "com/example/campo_grande/campogrande/PayloadDigestNamesPinLaw", name := "alg", desc := "(I)Lcom/example/campo_grande/campogrande/SignatureAlgorithm;" } : Jvm.MethodName) method_3_code (1 : Nat) (Option.some (Jvm.ClassFile.FieldType.object "com/example/campo_grande/campogrande/SignatureAlgorithm")), Jvm.Cond.code ({ cls := "com/example/campo_grande/campogrande/PayloadDigestNamesPinLaw", name := "sig", desc := "(IIIII)Ljava/lang/String;" } : Jvm.MethodName) method_5_code (9 : Nat) (Option.some (Jvm.ClassFile.FieldType.object "java/lang/String")), Jvm.Cond.code ({ cls := "com/example/campo_grande/campogrande/PayloadDigestNamesPinLaw", name := "hex", desc := "(I)C" } : Jvm.MethodName) method_4_code (1 : Nat) (Option.some Jvm.ClassFile.FieldType.char), Jvm.Cond.code ({ cls := "java/lang/String", name := "charAt", desc := "(I)C" } : Jvm.MethodName) jdk_42_method_56_code (2 : Nat) (Option.some Jvm.ClassFile.FieldType.char), Jvm.Cond.code ({ cls := "java/lang/String", name := "isLatin1", desc := "()Z" } : Jvm.MethodName) jdk_42_method_154_code (1 : Nat) (Option.some Jvm.ClassFile.FieldType.boolean), Jvm.Cond.code ({ cls := "java/lang/StringLatin1", name := "charAt", desc := "([BI)C" } : Jvm.MethodName) jdk_43_method_2_code (2 : Nat) (Option.some Jvm.ClassFile.FieldType.char), Jvm.Cond.code ({ cls := "java/lang/String", name := "checkIndex", desc := "(II)V" } : Jvm.MethodName) jdk_42_method_155_code (2 : Nat) (Option.none : Option Jvm.ClassFile.FieldType), Jvm.Cond.code ({ cls := "jdk/internal/util/Preconditions", name := "checkIndex", desc := "(IILjava/util/function/BiFunction;)I" } : Jvm.MethodName) jdk_41_method_11_code (3 : Nat) (Option.some Jvm.ClassFile.FieldType.int), Jvm.Cond.code ({ cls := "java/lang/String", name := "<init>", desc := "([C)V" } : Jvm.MethodName) jdk_42_method_3_code (2 : Nat) (Option.none : Option Jvm.ClassFile.FieldType), Jvm.Cond.code ({ cls := "java/lang/String", name := "<init>", desc := "([CIILjava/lang/Void;)V" } : Jvm.MethodName) jdk_42_method_149_code (6 : Nat) (Option.none : Option Jvm.ClassFile.FieldType), Jvm.Cond.code ({ cls := "java/lang/Object", name := "<init>", desc := "()V" } : Jvm.MethodName) object_method_1_code (1 : Nat) (Option.none : Option Jvm.ClassFile.FieldType), Jvm.Cond.code ({ cls := "java/lang/StringUTF16", name := "compress", desc := "([CII)[B" } : Jvm.MethodName) jdk_52_method_16_code (6 : Nat) (Option.some (Jvm.ClassFile.FieldType.array Jvm.ClassFile.FieldType.byte)), Jvm.Cond.code ({ cls := "java/lang/StringUTF16", name := "compress", desc := "([CI[BII)I" } : Jvm.MethodName) jdk_52_method_21_code (7 : Nat) (Option.some Jvm.ClassFile.FieldType.int), Jvm.Cond.code ({ cls := "java/lang/StringUTF16", name := "coderFromArrayLen", desc := "([BI)B" } : Jvm.MethodName) jdk_52_method_15_code (2 : Nat) (Option.some Jvm.ClassFile.FieldType.byte), Jvm.Cond.code ({ cls := "com/example/campo_grande/campogrande/ContentKey", name := "<init>", desc := "(ILcom/example/campo_grande/campogrande/SignatureAlgorithm;Ljava/lang/String;I)V" } : Jvm.MethodName) prog_13_method_1_code (5 : Nat) (Option.none : Option Jvm.ClassFile.FieldType), Jvm.Cond.code ({ cls := "java/util/Objects", name := "requireNonNull", desc := "(Ljava/lang/Object;Ljava/lang/String;)Ljava/lang/Object;" } : Jvm.MethodName) jdk_31_method_11_code (2 : Nat) (Option.some (Jvm.ClassFile.FieldType.object "java/lang/Object")), Jvm.Cond.code ({ cls := "com/example/campo_grande/campogrande/SignatureAlgorithm", name := "isSignature", desc := "(Ljava/lang/String;)Z" } : Jvm.MethodName) prog_25_method_6_code (4 : Nat) (Option.some Jvm.ClassFile.FieldType.boolean), Jvm.Cond.code ({ cls := "java/lang/String", name := "length", desc := "()I" } : Jvm.MethodName) jdk_42_method_54_code (1 : Nat) (Option.some Jvm.ClassFile.FieldType.int), Jvm.Cond.code ({ cls := "java/lang/String", name := "coder", desc := "()B" } : Jvm.MethodName) jdk_42_method_152_code (1 : Nat) (Option.some Jvm.ClassFile.FieldType.byte), Jvm.Cond.code ({ cls := "com/example/campo_grande/campogrande/PayloadDigest", name := "<init>", desc := "(Lcom/example/campo_grande/campogrande/SignatureAlgorithm;Ljava/lang/String;)V" } : Jvm.MethodName) prog_21_method_1_code (3 : Nat) (Option.none : Option Jvm.ClassFile.FieldType), Jvm.Cond.code ({ cls := "com/example/campo_grande/campogrande/PayloadDigest", name := "names", desc := "(Lcom/example/campo_grande/campogrande/ContentKey;)Z" } : Jvm.MethodName) prog_21_method_4_code (2 : Nat) (Option.some Jvm.ClassFile.FieldType.boolean), Jvm.Cond.code ({ cls := "com/example/campo_grande/campogrande/ContentKey", name := "getAlgorithm", desc := "()Lcom/example/campo_grande/campogrande/SignatureAlgorithm;" } : Jvm.MethodName) prog_13_method_6_code (1 : Nat) (Option.some (Jvm.ClassFile.FieldType.object "com/example/campo_grande/campogrande/SignatureAlgorithm")), Jvm.Cond.code ({ cls := "com/example/campo_grande/campogrande/ContentKey", name := "getSignature", desc := "()Ljava/lang/String;" } : Jvm.MethodName) prog_13_method_7_code (1 : Nat) (Option.some (Jvm.ClassFile.FieldType.object "java/lang/String")), Jvm.Cond.code ({ cls := "java/lang/String", name := "equals", desc := "(Ljava/lang/Object;)Z" } : Jvm.MethodName) jdk_42_method_66_code (3 : Nat) (Option.some Jvm.ClassFile.FieldType.boolean), Jvm.Cond.code ({ cls := "java/lang/StringLatin1", name := "equals", desc := "([B[B)Z" } : Jvm.MethodName) jdk_43_method_13_code (3 : Nat) (Option.some Jvm.ClassFile.FieldType.boolean)]
set_option maxRecDepth 65536 in
theorem codes_eq : words1.filter isCode = codes1 := rfl
theorem w_codes : ∀ c ∈ words1.filter isCode, c.before args0 about1 = true := by
  rw [codes_eq]
  intro c hc
  simp only [codes1, List.mem_cons, List.not_mem_nil, or_false] at hc
  rcases hc with rfl | rfl | rfl | rfl | rfl | rfl | rfl | rfl | rfl | rfl | rfl | rfl | rfl | rfl | rfl | rfl | rfl | rfl | rfl | rfl | rfl | rfl | rfl | rfl | rfl | rfl
  · exact w_c0
  · exact w_c1
  · exact w_c2
  · exact w_c3
  · exact w_c4
  · exact w_c5
  · exact w_c6
  · exact w_c7
  · exact w_c8
  · exact w_c9
  · exact w_c10
  · exact w_c11
  · exact w_c12
  · exact w_c13
  · exact w_c14
  · exact w_c15
  · exact w_c16
  · exact w_c17
  · exact w_c18
  · exact w_c19
  · exact w_c20
  · exact w_c21
  · exact w_c22
  · exact w_c23
  · exact w_c24
  · exact w_c25
set_option maxRecDepth 65536 in
theorem w_t1 : (words1.take 24).all (fun c => isCode c || c.before args0 about1) = true := by decide +kernel
set_option maxRecDepth 65536 in
theorem w_t2 : ((words1.drop 24).take 24).all (fun c => isCode c || c.before args0 about1) = true := by decide +kernel
set_option maxRecDepth 65536 in
theorem w_t3 : (((words1.drop 24).drop 24).take 24).all (fun c => isCode c || c.before args0 about1) = true := by decide +kernel
set_option maxRecDepth 65536 in
theorem w_t4 : ((((words1.drop 24).drop 24).drop 24).take 24).all (fun c => isCode c || c.before args0 about1) = true := by decide +kernel
set_option maxRecDepth 65536 in
theorem w_t5 : (((((words1.drop 24).drop 24).drop 24).drop 24).take 24).all (fun c => isCode c || c.before args0 about1) = true := by decide +kernel
set_option maxRecDepth 65536 in
theorem w_t6 : ((((((words1.drop 24).drop 24).drop 24).drop 24).drop 24).take 24).all (fun c => isCode c || c.before args0 about1) = true := by decide +kernel
set_option maxRecDepth 65536 in
theorem w_t7 : ((((((words1.drop 24).drop 24).drop 24).drop 24).drop 24).drop 24).all (fun c => isCode c || c.before args0 about1) = true := by decide +kernel
theorem w_tables : (allAtoms (Jvm.Cond.code x code maxLocals ret :: tables_1)).before args0 about1 = true := by
  rw [allAtoms_all]
  show words1.all (fun c => c.before args0 about1) = true
  refine all_split ?_ w_codes
  rw [← List.take_append_drop 24 words1, List.all_append, w_t1, ← List.take_append_drop 24 (words1.drop 24), List.all_append, w_t2, ← List.take_append_drop 24 ((words1.drop 24).drop 24), List.all_append, w_t3, ← List.take_append_drop 24 (((words1.drop 24).drop 24).drop 24), List.all_append, w_t4, ← List.take_append_drop 24 ((((words1.drop 24).drop 24).drop 24).drop 24), List.all_append, w_t5, ← List.take_append_drop 24 (((((words1.drop 24).drop 24).drop 24).drop 24).drop 24), List.all_append, w_t6, w_t7]
  rfl
set_option maxRecDepth 65536 in
theorem w_rest : rest_1_c.before args0 about1 = true := by decide +kernel
set_option maxRecDepth 65536 in
theorem w_case : (Jvm.Cond.and given_1 narrow_1).before args0 about1 = true := by decide +kernel
set_option maxRecDepth 65536 in
theorem w_consts : constsHeld consts_1 about1 := Jvm.Lit.constsHeldB_iff.mp (by decide +kernel)
theorem w_applies : (headSpec (Jvm.Cond.code x code maxLocals ret :: tables_1) room_1).applies x e0.platform about1 = true :=
  (Spec.applies_iff w_frames).mpr ⟨w_running, w_runnable, w_alone, w_named, w_hears, w_ripe, w_room, w_tables⟩
theorem atStart : AtStart classFile x code maxLocals ret World_1 tables_1 room_1 Calls_1 rest_1 Pre_1 launch0 p0 e0 about1 theMethod args0 below0 :=
  ⟨lists_1, trivial, launch0.admits_env _ _ _, launch0.least_env, fairChoices_fair.cas, fairChoices_fair.clock, w_frames, w_args, w_heap, w_applies, ⟨w_consts, trivial⟩, w_rest, w_case⟩
end start1
theorem witness_1 : WitnessClaimed_1 := ⟨start1.p0, start1.e0, start1.about1, start1.theMethod, start1.args0, start1.below0, start1.atStart⟩
end Jvm.Pilot.@@N@@
