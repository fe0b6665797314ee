import JvmDerived
import JvmDerived.Pilot.@@N@@Statement
import JvmDerived.Pilot.@@N@@Code
set_option linter.unusedVariables false
set_option linter.unusedSimpArgs false
namespace Jvm.Own
open Sem ClassFile Op Lib Jvm.Stand Jvm.Free Jvm.LawKit Jvm.RoadKit
section Core
variable {p : Program} {l : Launch} {e : Env} {R : Room} {s : State} {m : MethodId} {args : Array Value} {below : List Frame} {meth : Method} {c : Code} {Z : State} {a0 : Array Value} {h h' : Heap} {k n k' n' : Nat} {Q : Option Value → Heap → Prop} {g g' : JFrame} {code : ByteArray} {ml : Nat} {own nm : String} {rty : Option FieldType} {pc pc' : Nat} {Ls : Array Slot} {St : List Value}
/-- what stays the same along the walk of one body -/
def Cx (p : Program) (s : State) (m : MethodId) (meth : Method) (c : Code) (code : ByteArray) (ml : Nat) (rty : Option FieldType) (nm own : String) (Z : State) : Prop :=
  p.tables.exec = Jvm.exec ∧ c.code = code ∧ c.maxLocals = ml ∧ Z.Warmed39 s.vm ∧ s.vm.findClass own = some m.cls ∧ meth.sig.returnType = rty ∧ meth.name = nm ∧ meth.locks = false
theorem Cx.hx (C : Cx p s m meth c code ml rty nm own Z) : p.tables.exec = Jvm.exec := C.1
theorem Cx.hby (C : Cx p s m meth c code ml rty nm own Z) : c.code = code := C.2.1
theorem Cx.hml (C : Cx p s m meth c code ml rty nm own Z) : c.maxLocals = ml := C.2.2.1
theorem Cx.hZ (C : Cx p s m meth c code ml rty nm own Z) : Z.Warmed39 s.vm := C.2.2.2.1
theorem Cx.hown (C : Cx p s m meth c code ml rty nm own Z) : s.vm.findClass own = some m.cls := C.2.2.2.2.1
theorem Cx.hret (C : Cx p s m meth c code ml rty nm own Z) : meth.sig.returnType = rty := C.2.2.2.2.2.1
theorem Cx.hnm (C : Cx p s m meth c code ml rty nm own Z) : meth.name = nm := C.2.2.2.2.2.2.1
theorem Cx.hlk (C : Cx p s m meth c code ml rty nm own Z) : meth.locks = false := C.2.2.2.2.2.2.2
theorem Cx.d (C : Cx p s m meth c code ml rty nm own Z) {r : Except DecodeError (Instr × Nat)} (hd : decode code pc = r) : decode c.code pc = r := C.hby ▸ hd
/-- from every state that stands so, with heap h and the frame g on top, the body comes to its end, and Q holds there; what stood at Z stands -/
def Go (p : Program) (l : Launch) (e : Env) (R : Room) (s : State) (m : MethodId) (args : Array Value) (below : List Frame) (meth : Method) (c : Code) (Z : State) (Q : Option Value → Heap → Prop) (h : Heap) (k n : Nat) (g : JFrame) : Prop :=
  ∀ T L, Ext Z.heap h → Fr Z.heap.size L → Stand p l e R s m args below meth c T L k n → T.heap = h → ∃ s₂ o, Steps p.tables e below (T.setTop g) s₂ ∧ s₂.status = .running ∧ Ended s₂ below o ∧ ∃ v L', o = .returned v ∧ (Q v s₂.heap ∧ Ext Z.heap s₂.heap ∧ Fr Z.heap.size L') ∧ FrameEnd s o s₂ L' R.cells R.slots
/-- what a method pays where it is called with these arguments at this heap -/
def Pays (l : Launch) (Z : State) (y : MethodName) (bytes : ByteArray) (ml : Nat) (rty : Option FieldType) (rm : Room) (as' : Array Value) (h0 : Heap) (Q : Option Value → Heap → Prop) : Prop :=
  Ext Z.heap h0 → ∀ ws, MetFree l y (head1 (Jvm.Cond.code y bytes ml rty :: ws) rm) (fun a U => a = as' ∧ Z.Warmed39 U.vm ∧ U.heap = h0) (fun _ _ _ _ _ => True) (fun _ U o U' => ∃ v L, o = .returned v ∧ (Q v U'.heap ∧ Ext Z.heap U'.heap ∧ Fr Z.heap.size L) ∧ FrameEnd U o U' L rm.cells rm.slots)
abbrev Vl (Q : Value → Heap → Prop) : Option Value → Heap → Prop := fun v h => ∃ w, v = some w ∧ Q w h
abbrev Nl (Q : Heap → Prop) : Option Value → Heap → Prop := fun v h => v = none ∧ Q h
theorem pays_of_go {y : MethodName} {bytes : ByteArray} {rm : Room} {as' : Array Value} {h0 : Heap} {F : MethodId → JFrame} (hpl : plainFor y = true) (hF : ∀ m, entryFrame m as' ml = F m)
    (body : ∀ p e s m below meth c, Cx p s m meth c bytes ml rty y.name y.cls Z → Go p l e rm s m as' below meth c Z Q h0 0 0 (F m)) : Pays l Z y bytes ml rty rm as' h0 Q := by
  intro hE ws
  refine MetFree.of_bodySF hpl hisR ?_
  intro p e s m args below meth c s₁ Bd hml0 hP hK
  obtain ⟨rfl, hZ, hh⟩ := hP
  have e0 : s₁.heap = h0 := by rw [← hh, Bd.state]; rfl
  have X0 : Stand p l e rm s m args below meth c s₁ [] 0 0 := Stand.of_body Bd
  have q := body p e s m below meth c ⟨Bd.exec, Bd.bytes, hml0, hZ, findClass_of_methodNamed Bd.named, Bd.returns, (name_of_methodNamed Bd.named Bd.method).1, Bd.notSynchronized⟩ s₁ [] hE (Fr.nil _) X0 e0
  rw [hF]
  exact q
theorem Pays.mono {y : MethodName} {bytes : ByteArray} {rm : Room} {as' : Array Value} {h0 : Heap} {Q' : Option Value → Heap → Prop} (P : Pays l Z y bytes ml rty rm as' h0 Q) (H : ∀ v h, Q v h → Q' v h) : Pays l Z y bytes ml rty rm as' h0 Q' := fun hE ws =>
  (P hE ws).mono (fun _ _ q => q) (fun _ _ _ _ _ q => q) (fun _ _ _ _ _ ⟨v, L, e, q, r⟩ => ⟨v, L, e, ⟨H _ _ q.1, q.2⟩, r⟩)
theorem Go.plain (H : ∀ T L, Stand p l e R s m args below meth c T L k n → ∀ t, Steps p.tables e below (T.setTop g') t → Steps p.tables e below (T.setTop g) t) (K : Go p l e R s m args below meth c Z Q h k n g') : Go p l e R s m args below meth c Z Q h k n g := fun T L hE hF X eT => by
  obtain ⟨s₂, o, st, r⟩ := K T L hE hF X eT
  exact ⟨s₂, o, H T L X _ st, r⟩
theorem Go.law0 (H : ∀ T L, Stand p l e R s m args below meth c T L k n → T.heap = h → ∃ T', Stand p l e R s m args below meth c T' L k n ∧ T'.heap = h ∧ ∀ t, Steps p.tables e below (T'.setTop g') t → Steps p.tables e below (T.setTop g) t) (K : Go p l e R s m args below meth c Z Q h k n g') : Go p l e R s m args below meth c Z Q h k n g := fun T L hE hF X eT => by
  obtain ⟨T', X', eT', st'⟩ := H T L X eT
  obtain ⟨s₂, o, st, r⟩ := K T' L hE hF X' eT'
  exact ⟨s₂, o, st' _ st, r⟩
theorem Go.old (K : Ext Z.heap h → Go p l e R s m args below meth c Z Q h k n g) : Go p l e R s m args below meth c Z Q h k n g := fun T L hE hF X eT => K hE T L hE hF X eT
theorem stand_more {T : State} {L : List Loc} (X : Stand p l e R s m args below meth c T L k n) (hk : k ≤ k') (hn : n ≤ n') : Stand p l e R s m args below meth c T L k' n' :=
  ⟨X.admits, X.cas, X.clock, X.frames, X.room, X.hears, X.method, X.code, X.here, X.tail, X.warmed, X.limits, X.bytes, X.same.mono hk hn⟩
/-- less may have been made than is booked -/
theorem Go.more (hk : k ≤ k') (hn : n ≤ n') (K : Go p l e R s m args below meth c Z Q h k' n' g) : Go p l e R s m args below meth c Z Q h k n g := fun T L hE hF X eT => K T L hE hF (stand_more X hk hn) eT
theorem ext_refl (h : Heap) : Ext h h := ⟨Nat.le_refl _, fun _ _ q => q⟩
theorem ext_trans {h1 h2 h3 : Heap} (E : Ext h1 h2) (E' : Ext h2 h3) : Ext h1 h3 := ⟨Nat.le_trans E.1 E'.1, fun a c q => E'.2 a c (E.2 a c q)⟩
theorem ext_wr {h1 h2 h3 : Heap} {a : Addr} {sl : Nat} {v : Value} (E : Ext h1 h2) (W : Wr h2 h3 a sl v) (q : h1.size ≤ a) : Ext h1 h3 :=
  have K := Keep.of_wr W
  ⟨Nat.le_trans E.1 K.1, fun x c r => K.2.1 x c (E.2 x c r) fun z => absurd (Array.getElem?_eq_some_iff.mp r).1 (Nat.not_lt.mpr (by cases List.mem_singleton.mp z; exact q))⟩
theorem ext_keep {h1 h2 h3 : Heap} {ws : List Addr} (E : Ext h1 h2) (K : Keep h2 h3 ws) (q : ∀ x ∈ ws, h1.size ≤ x) : Ext h1 h3 :=
  ⟨Nat.le_trans E.1 K.1, fun x c r => K.2.1 x c (E.2 x c r) fun z => absurd (Array.getElem?_eq_some_iff.mp r).1 (Nat.not_lt.mpr (q x z))⟩
theorem keep_ext {h1 h2 : Heap} (E : Ext h1 h2) (ws : List Addr) : Keep h1 h2 ws := (Keep.refl _ _).ext E
theorem ext_keep1 {h1 h2 h3 : Heap} {a : Addr} (E : Ext h1 h2) (K : Keep h2 h3 [a]) (q : h1.size ≤ a) : Ext h1 h3 := ext_keep E K (allS q all0)
theorem catV {v : Value} (h : v.isRef = true) : v.category = 1 := by rcases ref_cases h with rfl | ⟨_, rfl⟩ <;> rfl
theorem narR (ty : FieldType) (v : Value) (h : v.isRef = true) : narrow ty v = v := by rcases ref_cases h with rfl | ⟨_, rfl⟩ <;> cases ty <;> rfl
theorem fitR' {ty : FieldType} {v : Value} (ht : ty.isReference = true) (h : v.isRef = true) : fits ty v = true := by rcases ref_cases h with rfl | ⟨_, rfl⟩ <;> cases ty <;> first | rfl | (simp [FieldType.isReference] at ht)
theorem ins_keep {a : Addr} {cK : String} {b : Bool} {ws : List Addr} (F : Ins Z h a cK b) (K : Keep h h' ws) : Ins Z h' a cK b := by
  obtain ⟨cell, cT, h1, h2, h3⟩ := F
  obtain ⟨c', q, r1, r2, -⟩ := K.2.2 a cell h1
  exact ⟨c', cT, q, h2, by rw [r1, r2]; exact h3⟩
theorem faceOk {r fn d : String} (q : r ≠ "java/lang/invoke/MethodHandle" ∧ r ≠ "java/lang/invoke/VarHandle") : ((Jvm.Cond.interfaceMethod r r fn d).onTables && (Jvm.Cond.interfaceMethod r r fn d).keepsFace) = true := by
  show (true && (false || (r == r && r != "java/lang/invoke/MethodHandle" && r != "java/lang/invoke/VarHandle"))) = true
  simp [q.1, q.2]
/-! ### the single laws -/
theorem Go.ldcI (C : Cx p s m meth c code ml rty nm own Z) {idx : Nat} {v : Int32} (w : (Jvm.Cond.constant own idx v).before a0 Z = true) (hd : decode code pc = .ok (.ldc idx, 2)) (hp : pc + 2 = pc')
    (K : Go p l e R s m args below meth c Z Q h k n (mkF m pc' Ls (.int v :: St))) : Go p l e R s m args below meth c Z Q h k n (mkF m pc Ls St) := by
  subst hp
  exact Go.plain (fun T L X t q => X.ldcInt C.hx C.hown (mv C.hZ w) (g := mkF m pc Ls St) rfl (C.d hd) t q) K
theorem Go.irem (C : Cx p s m meth c code ml rty nm own Z) {x y : Int32} (hd : decode code pc = .ok (.irem, 1)) (hy : y ≠ 0) (hp : pc + 1 = pc')
    (K : Go p l e R s m args below meth c Z Q h k n (mkF m pc' Ls (.int (x % y) :: St))) : Go p l e R s m args below meth c Z Q h k n (mkF m pc Ls (.int y :: .int x :: St)) := by
  subst hp
  exact Go.plain (fun T L X t q => iremM (g := mkF m pc Ls (.int y :: .int x :: St)) X C.hx rfl (C.d hd) rfl hy q) K
theorem Go.getF (C : Cx p s m meth c code ml rty nm own Z) {R0 O fn d host : String} {idx : Nat} (w : (Jvm.Cond.fieldLink own idx R0 fn d).before a0 Z = true ∨ (Jvm.Cond.fieldLinkNest own idx R0 fn d host).before a0 Z = true) (via : Via Z R0 O fn d) {a : Addr} {v : Value} (F : Fld Z h a O fn d v)
    (hd : decode code pc = .ok (.getfield idx, 3)) (hp : pc + 3 = pc') (K : Go p l e R s m args below meth c Z Q h k n (mkF m pc' Ls (v :: St))) : Go p l e R s m args below meth c Z Q h k n (mkF m pc Ls (.ref a :: St)) := by
  subst hp
  exact Go.law0 (fun T L X eT => Jvm.RoadKit.getF X C.hx C.hZ C.hown w via eT F (g := mkF m pc Ls (.ref a :: St)) rfl rfl (C.d hd)) K
theorem Go.getS (C : Cx p s m meth c code ml rty nm own Z) {R0 O fn d host : String} {idx : Nat} (w : (Jvm.Cond.fieldLink own idx R0 fn d).before a0 Z = true ∨ (Jvm.Cond.fieldLinkNest own idx R0 fn d host).before a0 Z = true) (via : Via Z R0 O fn d) {v : Value} (F : Sta Z Z.heap O fn d v)
    (hd : decode code pc = .ok (.getstatic idx, 3)) (hp : pc + 3 = pc') (K : Go p l e R s m args below meth c Z Q h k n (mkF m pc' Ls (v :: St))) : Go p l e R s m args below meth c Z Q h k n (mkF m pc Ls St) := by
  subst hp
  exact Go.old fun hE => Go.law0 (fun T L X eT => Jvm.RoadKit.getS2 X C.hx C.hZ C.hown w via eT (F.ext hE) (g := mkF m pc Ls St) rfl (C.d hd)) K
theorem Go.new (C : Cx p s m meth c code ml rty nm own Z) {cl : String} {idx sl : Nat} (w : (Jvm.Cond.classLink own idx cl).before a0 Z = true) (wi : (Jvm.Cond.instantiable cl sl).before a0 Z = true) (wz : (Jvm.Cond.initialized cl).before a0 Z = true) (hd : decode code pc = .ok (.new idx, 3)) (hp : pc + 3 = pc')
    (hk : k + 1 = k') (hn : n + sl = n') (hc : k' ≤ R.cells) (hl : n' ≤ R.slots)
    (K : ∀ (a : Addr) (h' : Heap), a = h.size → Z.heap.size ≤ a → Ext h h' → Exa Z h' a cl → (∀ {O fn d : String} {ty : FieldType}, Laid Z a0 cl O fn d → parseFieldDescriptor d = some ty → Fld Z h' a O fn d (defaultValue ty)) → Go p l e R s m args below meth c Z Q h' k' n' (mkF m pc' Ls (.ref a :: St))) :
    Go p l e R s m args below meth c Z Q h k n (mkF m pc Ls St) := by
  subst hp hk hn
  intro T L hE hF X eT
  obtain ⟨T', h2, X', e', E', A', D', -, st'⟩ := newO X C.hx C.hZ C.hown w wi wz eT (g := mkF m pc Ls St) rfl (C.d hd) hc hl
  obtain ⟨s₂, o, st, r⟩ := K _ h2 rfl hE.1 E' A' D' T' L (ext_trans hE E') hF X' e'
  exact ⟨s₂, o, st' _ st, r⟩
theorem Go.putF (C : Cx p s m meth c code ml rty nm own Z) {R0 O fn d host cl : String} {idx kk : Nat} {ty : FieldType} (w : (Jvm.Cond.fieldLink own idx R0 fn d).before a0 Z = true ∨ (Jvm.Cond.fieldLinkNest own idx R0 fn d host).before a0 Z = true) (via : Via Z R0 O fn d) {a : Addr} {v old : Value} (F : Fld Z h a O fn d old) (E : Exa Z h a cl)
    (Ly : (Jvm.Cond.lays cl O fn d).before a0 Z = true ∨ ((Jvm.Cond.laysFinal cl O fn d).before a0 Z = true ∧ own = O ∧ nm = "<init>")) (wi : (Jvm.Cond.instantiable cl kk).before a0 Z = true) (hty : parseFieldDescriptor d = some ty) (hn1 : narrow ty v = v) (hf : fits ty v = true) (ha : Z.heap.size ≤ a)
    (hd : decode code pc = .ok (.putfield idx, 3)) (hp : pc + 3 = pc')
    (K : ∀ h', Wr h h' a (Jvm.RoadKit.slotOf Z O fn d) v → Go p l e R s m args below meth c Z Q h' k n (mkF m pc' Ls St)) : Go p l e R s m args below meth c Z Q h k n (mkF m pc Ls (v :: .ref a :: St)) := by
  subst hp
  intro T L hE hF X eT
  obtain ⟨T', h2, X', e', W', st'⟩ := Jvm.RoadKit.putF X C.hx C.hZ C.hown w via eT F E (Ly.imp id fun q => ⟨q.1, q.2.1, C.hnm.trans q.2.2⟩) wi hty hn1 hf (g := mkF m pc Ls (v :: .ref a :: St)) rfl rfl (C.d hd)
  obtain ⟨s₂, o, st, r⟩ := K h2 W' T' _ (ext_wr hE W' ha) (Fr.snoc X' hF ha) X' e'
  exact ⟨s₂, o, st' _ st, r⟩
/-- a putfield of a boolean, byte, char or short: what lies there is the narrowed value -/
theorem Go.putFN (C : Cx p s m meth c code ml rty nm own Z) {R0 O fn d cl : String} {idx kk : Nat} {ty : FieldType} (w : (Jvm.Cond.fieldLink own idx R0 fn d).before a0 Z = true) (via : Via Z R0 O fn d) {a : Addr} {v v' old : Value} (F : Fld Z h a O fn d old) (E : Exa Z h a cl)
    (Ly : (Jvm.Cond.lays cl O fn d).before a0 Z = true ∨ ((Jvm.Cond.laysFinal cl O fn d).before a0 Z = true ∧ own = O ∧ nm = "<init>")) (wi : (Jvm.Cond.instantiable cl kk).before a0 Z = true) (hty : parseFieldDescriptor d = some ty) (hn1 : narrow ty v = v') (hf : fits ty v' = true) (ha : Z.heap.size ≤ a)
    (hd : decode code pc = .ok (.putfield idx, 3)) (hp : pc + 3 = pc')
    (K : ∀ h', Wr h h' a (Jvm.RoadKit.slotOf Z O fn d) v' → Go p l e R s m args below meth c Z Q h' k n (mkF m pc' Ls St)) : Go p l e R s m args below meth c Z Q h k n (mkF m pc Ls (v :: .ref a :: St)) := by
  subst hp
  intro T L hE hF X eT
  obtain ⟨T', h2, X', e', W', st'⟩ := Jvm.RoadKit.putFN X C.hx C.hZ C.hown w via eT F E (Ly.imp id fun q => ⟨q.1, q.2.1, C.hnm.trans q.2.2⟩) wi hty hn1 hf (g := mkF m pc Ls (v :: .ref a :: St)) rfl rfl (C.d hd)
  obtain ⟨s₂, o, st, r⟩ := K h2 W' T' _ (ext_wr hE W' ha) (Fr.snoc X' hF ha) X' e'
  exact ⟨s₂, o, st' _ st, r⟩
theorem Go.initO (C : Cx p s m meth c code ml rty nm own Z) {idx : Nat} (w1 : (Jvm.Cond.methodLink own idx Lib.objectInit).before a0 Z = true) (w2 : (Jvm.Cond.instanceMethod Lib.objectInit).before a0 Z = true) (w3 : (Jvm.Cond.code Lib.objectInit ⟨#[0xb1]⟩ 1 none).before a0 Z = true) {a : Addr}
    (hd : decode code pc = .ok (.invokespecial idx, 3)) (hp : pc + 3 = pc') (hs : Ls.size = ml) (hf : 1 ≤ R.frames) {W : Nat} (hW : (St.map fun v => v.category).sum ≤ W) (hl : W + 12 ≤ R.locals)
    (K : Go p l e R s m args below meth c Z Q h k n (mkF m pc' Ls St)) : Go p l e R s m args below meth c Z Q h k n (mkF m pc Ls (.ref a :: St)) := by
  subst hp
  exact Go.law0 (fun T L X eT => Jvm.RoadKit.initO X C.hx C.hZ C.hown w1 w2 w3 eT (g := mkF m pc Ls (.ref a :: St)) rfl (hs.trans C.hml.symm) rfl (C.d hd) hf (W := W) (by show 2 * 0 + _ ≤ _; omega) hl) K
theorem Go.newP (C : Cx p s m meth c code ml rty nm own Z) {aty : ArrayType} (w : (Jvm.Cond.arrayClass (newarray.typeOf aty)).before a0 Z = true) {z : Int32} (hz : ¬ z < 0) {cap : Nat} (hcap : z.toNatClampNeg ≤ cap) (hb : cap * 8 ≤ 536870912) (hd : decode code pc = .ok (.newarray aty, 2)) (hp : pc + 2 = pc')
    (hk : k + 1 = k') (hn : n + cap = n') (hc : k' ≤ R.cells) (hl : n' ≤ R.slots)
    (K : ∀ (a : Addr) (h' : Heap) (kA : ClassId), a = h.size → Z.heap.size ≤ a → Ext h h' → Arv Z h' a kA (newarray.typeOf aty) z [] (defaultValue (newarray.typeOf aty)) → Go p l e R s m args below meth c Z Q h' k' n' (mkF m pc' Ls (.ref a :: St))) :
    Go p l e R s m args below meth c Z Q h k n (mkF m pc Ls (.int z :: St)) := by
  subst hp hk hn
  intro T L hE hF X eT
  obtain ⟨T', h2, kA, X', e', E', A', st'⟩ := Jvm.RoadKit.newP X C.hx C.hZ w eT (g := mkF m pc Ls (.int z :: St)) rfl (C.d hd) rfl hz hcap hb hc hl
  obtain ⟨s₂, o, st, r⟩ := K _ h2 kA rfl hE.1 E' (Arv.new A' hz) T' L (ext_trans hE E') hF X' e'
  exact ⟨s₂, o, st' _ st, r⟩
theorem Go.stC (C : Cx p s m meth c code ml rty nm own Z) {a : Addr} {kA : ClassId} {z j x : Int32} {vs : List Value} {dv : Value} (V : Arv Z h a kA .char z vs dv) (hj : ¬ j < 0 ∧ j < z) {i : Nat} (hi : j.toNatClampNeg = i) (hlen : i < vs.length) (ha : Z.heap.size ≤ a)
    (hd : decode code pc = .ok (.castore, 1)) (hp : pc + 1 = pc')
    (K : ∀ h', Wr h h' a j.toNatClampNeg (.int (nar .char x)) → Arv Z h' a kA .char z (vs.set i (.int (nar .char x))) dv → Go p l e R s m args below meth c Z Q h' k n (mkF m pc' Ls St)) :
    Go p l e R s m args below meth c Z Q h k n (mkF m pc Ls (.int x :: .int j :: .ref a :: St)) := by
  subst hp
  intro T L hE hF X eT
  obtain ⟨cl, Ar, q1, S, N, H, G⟩ := V
  obtain ⟨T', h2, X', e', W', st'⟩ := Jvm.RoadKit.stC X C.hx C.hZ eT Ar (j := j) (inb_of S hj) (g := mkF m pc Ls (.int x :: .int j :: .ref a :: St)) rfl rfl (C.d hd)
  obtain ⟨s₂, o, st, r⟩ := K h2 W' (Arv.set Ar q1 S N H G (fits_nar_char _) W' i hi hlen) T' _ (ext_wr hE W' ha) (Fr.snoc X' hF ha) X' e'
  exact ⟨s₂, o, st' _ st, r⟩
/-! ### ends -/
theorem Go.ret {ty : FieldType} (C : Cx p s m meth c code ml (some ty) nm own Z) {w : Value} {i : Instr} (hn : narrow ty w = w)
    (hi : (i = .ireturn ∧ (ty = .int ∨ ty = .boolean ∨ ty = .byte ∨ ty = .char ∨ ty = .short) ∧ ∃ z, w = .int z) ∨ (i = .lreturn ∧ ty = .long ∧ ∃ z, w = .long z) ∨ (i = .dreturn ∧ ty = .double ∧ ∃ z, w = .double z) ∨ (i = .freturn ∧ ty = .float ∧ ∃ z, w = .float z) ∨ (i = .areturn ∧ ty.isReference = true ∧ w.isRef = true))
    (hd : decode code pc = .ok (i, 1)) (hk : k ≤ R.cells) (hl : n ≤ R.slots) (hQ : Q (some w) h) : Go p l e R s m args below meth c Z Q h k n (mkF m pc Ls (w :: St)) := by
  intro T L hE hF X eT
  obtain ⟨fs, hr, hrun, hended, hW, hsame⟩ := X.leave (v := some w) (fun q => by rw [C.hret] at q; cases q) C.hlk
  refine ⟨_, _, retOut X C.hx C.hret hn hi (C.d hd) hr, hrun, hended, _, L, rfl, ⟨?_, ?_, hF⟩, ⟨_, rfl⟩, hW, hsame.mono hk hl⟩
  · show Q (some w) T.heap
    rw [eT]; exact hQ
  · show Ext Z.heap T.heap
    rw [eT]; exact hE
theorem Go.retI (C : Cx p s m meth c code ml (some .int) nm own Z) {z : Int32} (hd : decode code pc = .ok (.ireturn, 1)) (hk : k ≤ R.cells) (hl : n ≤ R.slots) (hQ : Q (some (.int z)) h) : Go p l e R s m args below meth c Z Q h k n (mkF m pc Ls (.int z :: St)) :=
  Go.ret C rfl (Or.inl ⟨rfl, Or.inl rfl, z, rfl⟩) hd hk hl hQ
theorem Go.retA {ty : FieldType} (C : Cx p s m meth c code ml (some ty) nm own Z) {w : Value} (ht : ty.isReference = true) (hw : w.isRef = true) (hn : narrow ty w = w) (hd : decode code pc = .ok (.areturn, 1)) (hk : k ≤ R.cells) (hl : n ≤ R.slots) (hQ : Q (some w) h) : Go p l e R s m args below meth c Z Q h k n (mkF m pc Ls (w :: St)) :=
  Go.ret C hn (Or.inr (Or.inr (Or.inr (Or.inr ⟨rfl, ht, hw⟩)))) hd hk hl hQ
/-- ireturn of a boolean, byte, char or short: what is handed back is narrowed -/
theorem Go.retN {ty : FieldType} (C : Cx p s m meth c code ml (some ty) nm own Z) {z : Int32} (ht : ty = .boolean ∨ ty = .byte ∨ ty = .char ∨ ty = .short) (hd : decode code pc = .ok (.ireturn, 1)) (hk : k ≤ R.cells) (hl : n ≤ R.slots) (hQ : Q (some (.int (nar ty z))) h) : Go p l e R s m args below meth c Z Q h k n (mkF m pc Ls (.int z :: St)) := by
  intro T L hE hF X eT
  obtain ⟨fs, hr, hrun, hended, hW, hsame⟩ := X.leave (v := some (.int (nar ty z))) (fun q => by rw [C.hret] at q; cases q) C.hlk
  refine ⟨_, _, Jvm.RoadKit.retN X C.hx C.hret ht (C.d hd) hr, hrun, hended, _, L, rfl, ⟨?_, ?_, hF⟩, ⟨_, rfl⟩, hW, hsame.mono hk hl⟩
  · show Q (some (.int (nar ty z))) T.heap
    rw [eT]; exact hQ
  · show Ext Z.heap T.heap
    rw [eT]; exact hE
theorem Go.retV (C : Cx p s m meth c code ml none nm own Z) (hd : decode code pc = .ok (.return_, 1)) (hk : k ≤ R.cells) (hl : n ≤ R.slots) (hQ : Q none h) : Go p l e R s m args below meth c Z Q h k n (mkF m pc Ls []) := by
  intro T L hE hF X eT
  obtain ⟨fs, hr, hrun, hended, hW, hsame⟩ := X.leave (v := none) (fun _ => rfl) C.hlk
  refine ⟨_, _, X.returnOut C.hx C.hret (C.d hd) hr, hrun, hended, _, L, rfl, ⟨?_, ?_, hF⟩, ⟨_, rfl⟩, hW, hsame.mono hk hl⟩
  · show Q none T.heap
    rw [eT]; exact hQ
  · show Ext Z.heap T.heap
    rw [eT]; exact hE
/-! ### calls by a contract -/
variable {y : MethodName} {bytes : ByteArray} {ml' : Nat} {ret' : Option FieldType} {rm : Room} {as' : Array Value} {Q' : Option Value → Heap → Prop} {idx W dc ds : Nat} {argsL rest : List Value} {ps : List FieldType} {rt : Option FieldType} {Qr : Option Value → Heap → List Loc → Prop}
/-- what pays a call in this family: the arguments as', the heap h, dc cells and ds slots at the most -/
abbrev Pay (l : Launch) (R : Room) (p : Program) (e : Env) (below : List Frame) (s : State) (args : Array Value) (y : MethodName) (len W : Nat) (as' : Array Value) (h : Heap) (dc ds : Nat) (Qr : Option Value → Heap → List Loc → Prop) : Prop :=
  Back l R p e below s args y len W (fun A a => a = as' ∧ A.U.heap = h ∧ A.cells + dc ≤ R.cells ∧ A.slots + ds ≤ R.slots) (fun A _ v B => ∃ L, Qr v B.U.heap L ∧ B.locs = A.locs ++ L ∧ B.cells = A.cells + dc ∧ B.slots = A.slots + ds)
theorem Pays.pay {len : Nat} (P : Pays l Z y bytes ml' ret' rm as' h Q') (hE : Ext Z.heap h) (hZ : Z.Warmed39 s.vm) (wc : (Jvm.Cond.code y bytes ml' ret').before a0 Z = true) (wz : (Jvm.Cond.initialized y.cls).before a0 Z = true) (hf : rm.frames + 1 ≤ R.frames) (hl : W + (ml' + 11) + rm.locals ≤ R.locals) :
    Pay l R p e below s args y len W as' h rm.cells rm.slots (fun v h' L => Q' v h' ∧ Ext Z.heap h' ∧ Fr Z.heap.size L) := backOf (W := W) (Q := fun v h' L => Q' v h' ∧ Ext Z.heap h' ∧ Fr Z.heap.size L) (P hE []) hZ wc wz hf hl
theorem Go.staticB (C : Cx p s m meth c code ml rty nm own Z) (P : ∀ s', Z.Warmed39 s'.vm → Ext Z.heap h → Pay l R p e below s' args y 3 W as' h dc ds Qr) (hQ : ∀ v h' L, Ext Z.heap h → Qr v h' L → Q' v h' ∧ Ext Z.heap h' ∧ Fr Z.heap.size L) (wl : (Jvm.Cond.methodLink own idx y).before a0 Z = true) (ws : (Jvm.Cond.static y).before a0 Z = true) (wz : (Jvm.Cond.initialized y.cls).before a0 Z = true) (wc : (Jvm.Cond.code y bytes ml' ret').before a0 Z = true)
    (hy : y.cls ≠ "java/lang/invoke/MethodHandle" ∧ y.cls ≠ "java/lang/invoke/VarHandle") (hpd : parseMethodDescriptor y.desc = some ⟨ps, rt⟩) (hlen : argsL.length = ps.length) (has : argsL.toArray = as') (hd : decode code pc = .ok (.invokestatic idx, 3)) (hp : pc + 3 = pc') (hs : Ls.size = ml) (hst : St = argsL.reverse ++ rest)
    (hW : (rest.map fun v => v.category).sum ≤ W) (hk : k + dc = k') (hn : n + ds = n') (hc : k' ≤ R.cells) (hsl : n' ≤ R.slots)
    (K : ∀ v h', Q' v h' → Go p l e R s m args below meth c Z Q h' k' n' (mkF m pc' Ls (v.toList ++ rest))) : Go p l e R s m args below meth c Z Q h k n (mkF m pc Ls St) := by
  subst hp hk hn
  intro T L hE hF X eT
  obtain ⟨v, vm₁, ⟨T', L', k', n'⟩, -, X', ⟨Lc, hq, hL, hk, hn⟩, st'⟩ := Jvm.LawKit.callS X C.hx (y := y) C.hown (mvT C.hZ wl) (mvT C.hZ ws) (mvT C.hZ wz) (mvT C.hZ wc) hy (P s C.hZ hE) (g := mkF m pc Ls St) rfl (hs.trans C.hml.symm) (argsL := argsL) (rest := rest) (lenOf hpd hlen) hst (by show 2 * 0 + _ ≤ _; omega) (C.d hd) (fun _ _ => ⟨has, eT, hc, hsl⟩)
  dsimp only [Pt.U, Pt.locs, Pt.cells, Pt.slots] at X' hL hk hn st' hq
  subst hL hk hn
  obtain ⟨hq, hE', hF'⟩ := hQ _ _ _ hE hq
  obtain ⟨s₂, o, st, r⟩ := K v _ hq T' _ hE' (Fr.app hF hF') X' rfl
  exact ⟨s₂, o, st' _ st, r⟩
/-- a constructor -/
theorem Go.specialB (C : Cx p s m meth c code ml rty nm own Z) {a : Addr} (P : ∀ s', Z.Warmed39 s'.vm → Ext Z.heap h → Pay l R p e below s' args y 3 W as' h dc ds Qr) (hQ : ∀ v h' L, Ext Z.heap h → Qr v h' L → Q' v h' ∧ Ext Z.heap h' ∧ Fr Z.heap.size L) (hy1 : y.name = "<init>") (wl : (Jvm.Cond.methodLink own idx y).before a0 Z = true) (wi : (Jvm.Cond.instanceMethod y).before a0 Z = true) (wc : (Jvm.Cond.code y bytes ml' none).before a0 Z = true)
    (hy : y.cls ≠ "java/lang/invoke/MethodHandle" ∧ y.cls ≠ "java/lang/invoke/VarHandle") (hpd : parseMethodDescriptor y.desc = some ⟨ps, rt⟩) (hlen : argsL.length = ps.length) (has : (.ref a :: argsL).toArray = as') (hd : decode code pc = .ok (.invokespecial idx, 3)) (hp : pc + 3 = pc') (hs : Ls.size = ml) (hst : St = argsL.reverse ++ .ref a :: rest)
    (hW : (rest.map fun v => v.category).sum ≤ W) (hk : k + dc = k') (hn : n + ds = n') (hc : k' ≤ R.cells) (hsl : n' ≤ R.slots)
    (K : ∀ v h', Q' v h' → Go p l e R s m args below meth c Z Q h' k' n' (mkF m pc' Ls (v.toList ++ rest))) : Go p l e R s m args below meth c Z Q h k n (mkF m pc Ls St) := by
  subst hp hk hn
  intro T L hE hF X eT
  obtain ⟨v, vm₁, ⟨T', L', k', n'⟩, -, X', ⟨Lc, hq, hL, hk, hn⟩, st'⟩ := X.specialBack C.hx (y := y) hy1 C.hown (mvT C.hZ wl) (mvT C.hZ wi) (mvT C.hZ wc) hy (P s C.hZ hE) (g := mkF m pc Ls St) rfl (hs.trans C.hml.symm) (Steps.refl _) (a := a) (argsL := argsL) (rest := rest) (lenOf hpd hlen) hst (by show 2 * 0 + _ ≤ _; omega) (C.d hd) (fun _ _ => ⟨has, eT, hc, hsl⟩)
  dsimp only [Pt.U, Pt.locs, Pt.cells, Pt.slots] at X' hL hk hn st' hq
  subst hL hk hn
  obtain ⟨hq, hE', hF'⟩ := hQ _ _ _ hE hq
  obtain ⟨s₂, o, st, r⟩ := K v _ hq T' _ hE' (Fr.app hF hF') X' rfl
  exact ⟨s₂, o, st'.trans st, r⟩
/-- an instance method, on an object of exactly the class cl -/
theorem Go.virtB (C : Cx p s m meth c code ml rty nm own Z) {a : Addr} {cl : String} (P : ∀ s', Z.Warmed39 s'.vm → Ext Z.heap h → Pay l R p e below s' args y 3 W as' h dc ds Qr) (hQ : ∀ v h' L, Ext Z.heap h → Qr v h' L → Q' v h' ∧ Ext Z.heap h' ∧ Fr Z.heap.size L) (E : Exa Z h a cl) (wl : (Jvm.Cond.methodLink own idx y).before a0 Z = true) (wd : (Jvm.Cond.declares y).before a0 Z = true) (wse : (Jvm.Cond.selects cl y y).before a0 Z = true) (wi : (Jvm.Cond.instanceMethod y).before a0 Z = true)
    (hy : y.cls ≠ "java/lang/invoke/MethodHandle" ∧ y.cls ≠ "java/lang/invoke/VarHandle") (hpd : parseMethodDescriptor y.desc = some ⟨ps, rt⟩) (hlen : argsL.length = ps.length) (has : (.ref a :: argsL).toArray = as') (hd : decode code pc = .ok (.invokevirtual idx, 3)) (hp : pc + 3 = pc') (hs : Ls.size = ml) (hst : St = argsL.reverse ++ .ref a :: rest)
    (hW : (rest.map fun v => v.category).sum ≤ W) (hk : k + dc = k') (hn : n + ds = n') (hc : k' ≤ R.cells) (hsl : n' ≤ R.slots)
    (K : ∀ v h', Q' v h' → Go p l e R s m args below meth c Z Q h' k' n' (mkF m pc' Ls (v.toList ++ rest))) : Go p l e R s m args below meth c Z Q h k n (mkF m pc Ls St) := by
  subst hp hk hn
  intro T L hE hF X eT
  obtain ⟨cq, kq, qa, qb, qc⟩ := isOf (T := T) C.hZ eT E
  obtain ⟨v, vm₁, ⟨T', L', k', n'⟩, -, X', ⟨Lc, hq, hL, hk, hn⟩, st'⟩ := X.virtualBack C.hx (y := y) (z := y) C.hown (mvT C.hZ wl) (mvT C.hZ wd) (notFace_of_selects (args := #[]) (mvT C.hZ wse)) (mvT C.hZ wse) (mvT C.hZ wi) hy (P s C.hZ hE) qa qc (g := mkF m pc Ls St) rfl (hs.trans C.hml.symm) (Steps.refl _) (argsL := argsL) (rest := rest) (lenOf hpd hlen) hst (by show 2 * 0 + _ ≤ _; omega) (C.d hd) (fun _ _ => ⟨has, eT, hc, hsl⟩)
  dsimp only [Pt.U, Pt.locs, Pt.cells, Pt.slots] at X' hL hk hn st' hq
  subst hL hk hn
  obtain ⟨hq, hE', hF'⟩ := hQ _ _ _ hE hq
  obtain ⟨s₂, o, st, r⟩ := K v _ hq T' _ hE' (Fr.app hF hF') X' rfl
  exact ⟨s₂, o, st'.trans st, r⟩
theorem Go.static (C : Cx p s m meth c code ml rty nm own Z) (P : Pays l Z y bytes ml' ret' rm as' h Q') (wl : (Jvm.Cond.methodLink own idx y).before a0 Z = true) (ws : (Jvm.Cond.static y).before a0 Z = true) (wz : (Jvm.Cond.initialized y.cls).before a0 Z = true) (wc : (Jvm.Cond.code y bytes ml' ret').before a0 Z = true)
    (hy : y.cls ≠ "java/lang/invoke/MethodHandle" ∧ y.cls ≠ "java/lang/invoke/VarHandle") (hpd : parseMethodDescriptor y.desc = some ⟨ps, rt⟩) (hlen : argsL.length = ps.length) (has : argsL.toArray = as') (hd : decode code pc = .ok (.invokestatic idx, 3)) (hp : pc + 3 = pc') (hs : Ls.size = ml) (hst : St = argsL.reverse ++ rest)
    (hW : (rest.map fun v => v.category).sum ≤ W) (hf : rm.frames + 1 ≤ R.frames) (hl : W + (ml' + 11) + rm.locals ≤ R.locals) (hk : k + rm.cells = k') (hn : n + rm.slots = n') (hc : k' ≤ R.cells) (hsl : n' ≤ R.slots)
    (K : ∀ v h', Q' v h' → Go p l e R s m args below meth c Z Q h' k' n' (mkF m pc' Ls (v.toList ++ rest))) : Go p l e R s m args below meth c Z Q h k n (mkF m pc Ls St) :=
  Go.staticB C (fun s' hZ hE => P.pay hE hZ wc wz hf hl) (fun _ _ _ _ q => q) wl ws wz wc hy hpd hlen has hd hp hs hst hW hk hn hc hsl K
theorem Go.special (C : Cx p s m meth c code ml rty nm own Z) {a : Addr} (P : Pays l Z y bytes ml' none rm as' h Q') (hy1 : y.name = "<init>") (wl : (Jvm.Cond.methodLink own idx y).before a0 Z = true) (wi : (Jvm.Cond.instanceMethod y).before a0 Z = true) (wz : (Jvm.Cond.initialized y.cls).before a0 Z = true) (wc : (Jvm.Cond.code y bytes ml' none).before a0 Z = true)
    (hy : y.cls ≠ "java/lang/invoke/MethodHandle" ∧ y.cls ≠ "java/lang/invoke/VarHandle") (hpd : parseMethodDescriptor y.desc = some ⟨ps, rt⟩) (hlen : argsL.length = ps.length) (has : (.ref a :: argsL).toArray = as') (hd : decode code pc = .ok (.invokespecial idx, 3)) (hp : pc + 3 = pc') (hs : Ls.size = ml) (hst : St = argsL.reverse ++ .ref a :: rest)
    (hW : (rest.map fun v => v.category).sum ≤ W) (hf : rm.frames + 1 ≤ R.frames) (hl : W + (ml' + 11) + rm.locals ≤ R.locals) (hk : k + rm.cells = k') (hn : n + rm.slots = n') (hc : k' ≤ R.cells) (hsl : n' ≤ R.slots)
    (K : ∀ v h', Q' v h' → Go p l e R s m args below meth c Z Q h' k' n' (mkF m pc' Ls (v.toList ++ rest))) : Go p l e R s m args below meth c Z Q h k n (mkF m pc Ls St) :=
  Go.specialB C (fun s' hZ hE => P.pay hE hZ wc wz hf hl) (fun _ _ _ _ q => q) hy1 wl wi wc hy hpd hlen has hd hp hs hst hW hk hn hc hsl K
theorem Go.virt (C : Cx p s m meth c code ml rty nm own Z) {a : Addr} {cl : String} (P : Pays l Z y bytes ml' ret' rm as' h Q') (E : Exa Z h a cl) (wl : (Jvm.Cond.methodLink own idx y).before a0 Z = true) (wd : (Jvm.Cond.declares y).before a0 Z = true) (wse : (Jvm.Cond.selects cl y y).before a0 Z = true) (wi : (Jvm.Cond.instanceMethod y).before a0 Z = true)
    (wz : (Jvm.Cond.initialized y.cls).before a0 Z = true) (wc : (Jvm.Cond.code y bytes ml' ret').before a0 Z = true)
    (hy : y.cls ≠ "java/lang/invoke/MethodHandle" ∧ y.cls ≠ "java/lang/invoke/VarHandle") (hpd : parseMethodDescriptor y.desc = some ⟨ps, rt⟩) (hlen : argsL.length = ps.length) (has : (.ref a :: argsL).toArray = as') (hd : decode code pc = .ok (.invokevirtual idx, 3)) (hp : pc + 3 = pc') (hs : Ls.size = ml) (hst : St = argsL.reverse ++ .ref a :: rest)
    (hW : (rest.map fun v => v.category).sum ≤ W) (hf : rm.frames + 1 ≤ R.frames) (hl : W + (ml' + 11) + rm.locals ≤ R.locals) (hk : k + rm.cells = k') (hn : n + rm.slots = n') (hc : k' ≤ R.cells) (hsl : n' ≤ R.slots)
    (K : ∀ v h', Q' v h' → Go p l e R s m args below meth c Z Q h' k' n' (mkF m pc' Ls (v.toList ++ rest))) : Go p l e R s m args below meth c Z Q h k n (mkF m pc Ls St) :=
  Go.virtB C (fun s' hZ hE => P.pay hE hZ wc wz hf hl) (fun _ _ _ _ q => q) E wl wd wse wi hy hpd hlen has hd hp hs hst hW hk hn hc hsl K
/-! ### more single laws -/
theorem Go.ldcJ (C : Cx p s m meth c code ml rty nm own Z) {ix : Nat} {v : Int64} (w : (Jvm.Cond.constantLong own ix v).before a0 Z = true) (hd : decode code pc = .ok (.ldc2_w ix, 3)) (hp : pc + 3 = pc')
    (K : Go p l e R s m args below meth c Z Q h k n (mkF m pc' Ls (.long v :: St))) : Go p l e R s m args below meth c Z Q h k n (mkF m pc Ls St) := by
  subst hp
  exact Go.plain (fun T L X t q => X.ldc2Long C.hx C.hown (mv C.hZ w) (g := mkF m pc Ls St) rfl (C.d hd) t q) K
theorem Go.cast (C : Cx p s m meth c code ml rty nm own Z) {ix : Nat} {cK : String} {a : Addr} (w : (Jvm.Cond.classLink own ix cK).before a0 Z = true) (F : Ins Z h a cK true) (hd : decode code pc = .ok (.checkcast ix, 3)) (hp : pc + 3 = pc')
    (K : Go p l e R s m args below meth c Z Q h k n (mkF m pc' Ls (.ref a :: St))) : Go p l e R s m args below meth c Z Q h k n (mkF m pc Ls (.ref a :: St)) := by
  subst hp
  exact Go.law0 (fun T L X eT => castY X C.hx C.hZ C.hown w eT F (g := mkF m pc Ls (.ref a :: St)) rfl rfl (C.d hd)) K
theorem Go.castN (C : Cx p s m meth c code ml rty nm own Z) {ix : Nat} (hd : decode code pc = .ok (.checkcast ix, 3)) (hp : pc + 3 = pc')
    (K : Go p l e R s m args below meth c Z Q h k n (mkF m pc' Ls (.null :: St))) : Go p l e R s m args below meth c Z Q h k n (mkF m pc Ls (.null :: St)) := by
  subst hp
  exact Go.plain (fun T L X t q => X.checkcastNull C.hx (g := mkF m pc Ls (.null :: St)) rfl rfl (C.d hd) t q) K
theorem Go.instY (C : Cx p s m meth c code ml rty nm own Z) {ix : Nat} {cK : String} {a : Addr} (w : (Jvm.Cond.classLink own ix cK).before a0 Z = true) (F : Ins Z h a cK true) (hd : decode code pc = .ok (.instanceof ix, 3)) (hp : pc + 3 = pc')
    (K : Go p l e R s m args below meth c Z Q h k n (mkF m pc' Ls (.int 1 :: St))) : Go p l e R s m args below meth c Z Q h k n (mkF m pc Ls (.ref a :: St)) := by
  subst hp
  exact Go.law0 (fun T L X eT => Jvm.RoadKit.instY X C.hx C.hZ C.hown w eT F (g := mkF m pc Ls (.ref a :: St)) rfl rfl (C.d hd)) K
theorem Go.len (C : Cx p s m meth c code ml rty nm own Z) {a : Addr} {kA : ClassId} {ty : FieldType} {z : Int32} {vs : List Value} {dv : Value} (V : Arv Z h a kA ty z vs dv) (hd : decode code pc = .ok (.arraylength, 1)) (hp : pc + 1 = pc')
    (K : Go p l e R s m args below meth c Z Q h k n (mkF m pc' Ls (.int z :: St))) : Go p l e R s m args below meth c Z Q h k n (mkF m pc Ls (.ref a :: St)) := by
  subst hp
  intro T L hE hF X eT
  obtain ⟨cl, Ar, q1, S, N, H, G⟩ := V
  obtain ⟨s₂, o, st, r⟩ := K T L hE hF X eT
  rw [← len_of S N] at st
  exact ⟨s₂, o, X.arraylength C.hx (by rw [eT]; exact Ar.1) (State.isArrayOf_alike C.hZ.alike Ar.2.1) (g := mkF m pc Ls (.ref a :: St)) rfl rfl (C.d hd) _ st, r⟩
theorem Go.caload (C : Cx p s m meth c code ml rty nm own Z) {a : Addr} {kA : ClassId} {z j : Int32} {vs : List Value} {dv w : Value} (V : Arv Z h a kA .char z vs dv) (hj : ¬ j < 0 ∧ j < z) (hv : vs.getD j.toNatClampNeg dv = w) (hd : decode code pc = .ok (.caload, 1)) (hp : pc + 1 = pc')
    (K : Go p l e R s m args below meth c Z Q h k n (mkF m pc' Ls (w :: St))) : Go p l e R s m args below meth c Z Q h k n (mkF m pc Ls (.int j :: .ref a :: St)) := by
  subst hp
  intro T L hE hF X eT
  obtain ⟨cl, Ar, q1, S, N, H, G⟩ := V
  obtain ⟨s₂, o, st, r⟩ := K T L hE hF X eT
  exact ⟨s₂, o, X.caload C.hx (j := j) (v := w) (by rw [eT]; exact Ar.1) (State.isArrayOf_alike C.hZ.alike Ar.2.1) Ar.2.2 (inb_of S hj) (H.at (inb_of S hj) hv) (g := mkF m pc Ls (.int j :: .ref a :: St)) rfl rfl (C.d hd) _ st, r⟩
theorem Go.baload (C : Cx p s m meth c code ml rty nm own Z) {a : Addr} {kA : ClassId} {z j : Int32} {vs : List Value} {dv w : Value} (V : Arv Z h a kA .byte z vs dv) (hj : ¬ j < 0 ∧ j < z) (hv : vs.getD j.toNatClampNeg dv = w) (hd : decode code pc = .ok (.baload, 1)) (hp : pc + 1 = pc')
    (K : Go p l e R s m args below meth c Z Q h k n (mkF m pc' Ls (w :: St))) : Go p l e R s m args below meth c Z Q h k n (mkF m pc Ls (.int j :: .ref a :: St)) := by
  subst hp
  intro T L hE hF X eT
  obtain ⟨cl, Ar, q1, S, N, H, G⟩ := V
  obtain ⟨s₂, o, st, r⟩ := K T L hE hF X eT
  exact ⟨s₂, o, X.baloadBytes C.hx (j := j) (v := w) (by rw [eT]; exact Ar.1) (State.isArrayOf_alike C.hZ.alike Ar.2.1) Ar.2.2 (inb_of S hj) (H.at (inb_of S hj) hv) (g := mkF m pc Ls (.int j :: .ref a :: St)) rfl rfl (C.d hd) _ st, r⟩
theorem Go.aaload (C : Cx p s m meth c code ml rty nm own Z) {a : Addr} {kA : ClassId} {ty : FieldType} {z j : Int32} {vs : List Value} {dv w : Value} (V : Arv Z h a kA ty z vs dv) (hty : ty.isReference = true) (hj : ¬ j < 0 ∧ j < z) (hv : vs.getD j.toNatClampNeg dv = w) (hd : decode code pc = .ok (.aaload, 1)) (hp : pc + 1 = pc')
    (K : Go p l e R s m args below meth c Z Q h k n (mkF m pc' Ls (w :: St))) : Go p l e R s m args below meth c Z Q h k n (mkF m pc Ls (.int j :: .ref a :: St)) := by
  subst hp
  intro T L hE hF X eT
  obtain ⟨cl, Ar, q1, S, N, H, G⟩ := V
  obtain ⟨s₂, o, st, r⟩ := K T L hE hF X eT
  exact ⟨s₂, o, X.aaload C.hx (j := j) (v := w) (by rw [eT]; exact Ar.1) (State.isArrayOf_alike C.hZ.alike Ar.2.1) hty Ar.2.2 (inb_of S hj) (H.at (inb_of S hj) hv) (g := mkF m pc Ls (.int j :: .ref a :: St)) rfl rfl (C.d hd) _ st, r⟩
theorem Go.stB (C : Cx p s m meth c code ml rty nm own Z) {a : Addr} {kA : ClassId} {z j x : Int32} {vs : List Value} {dv : Value} (V : Arv Z h a kA .byte z vs dv) (hj : ¬ j < 0 ∧ j < z) {i : Nat} (hi : j.toNatClampNeg = i) (hlen : i < vs.length) (ha : Z.heap.size ≤ a)
    (hd : decode code pc = .ok (.bastore, 1)) (hp : pc + 1 = pc')
    (K : ∀ h', Wr h h' a j.toNatClampNeg (.int (nar .byte x)) → Arv Z h' a kA .byte z (vs.set i (.int (nar .byte x))) dv → Go p l e R s m args below meth c Z Q h' k n (mkF m pc' Ls St)) :
    Go p l e R s m args below meth c Z Q h k n (mkF m pc Ls (.int x :: .int j :: .ref a :: St)) := by
  subst hp
  intro T L hE hF X eT
  obtain ⟨cl, Ar, q1, S, N, H, G⟩ := V
  obtain ⟨T', h2, X', e', W', st'⟩ := Jvm.RoadKit.stB X C.hx C.hZ eT Ar (j := j) (inb_of S hj) (g := mkF m pc Ls (.int x :: .int j :: .ref a :: St)) rfl rfl (C.d hd)
  obtain ⟨s₂, o, st, r⟩ := K h2 W' (Arv.set Ar q1 S N H G (fits_nar_byte _) W' i hi hlen) T' _ (ext_wr hE W' ha) (Fr.snoc X' hF ha) X' e'
  exact ⟨s₂, o, st' _ st, r⟩
theorem Go.stR (C : Cx p s m meth c code ml rty nm own Z) {a : Addr} {kA : ClassId} {ty : FieldType} {z j : Int32} {v : Value} {vs : List Value} {dv : Value} (V : Arv Z h a kA ty z vs dv) (hty : ty.isReference = true) (hv : v.isRef = true) (F : Sto Z h a v) (hj : ¬ j < 0 ∧ j < z) {i : Nat} (hi : j.toNatClampNeg = i) (hlen : i < vs.length) (ha : Z.heap.size ≤ a)
    (hd : decode code pc = .ok (.aastore, 1)) (hp : pc + 1 = pc')
    (K : ∀ h', Wr h h' a j.toNatClampNeg v → Arv Z h' a kA ty z (vs.set i v) dv → Go p l e R s m args below meth c Z Q h' k n (mkF m pc' Ls St)) :
    Go p l e R s m args below meth c Z Q h k n (mkF m pc Ls (v :: .int j :: .ref a :: St)) := by
  subst hp
  intro T L hE hF X eT
  obtain ⟨cl, Ar, q1, S, N, H, G⟩ := V
  obtain ⟨T', h2, X', e', W', st'⟩ := Jvm.RoadKit.stR X C.hx C.hZ eT Ar (j := j) (inb_of S hj) hty F (g := mkF m pc Ls (v :: .int j :: .ref a :: St)) rfl rfl (C.d hd)
  obtain ⟨s₂, o, st, r⟩ := K h2 W' (Arv.set Ar q1 S N H G (fitR' hty hv) W' i hi hlen) T' _ (ext_wr hE W' ha) (Fr.snoc X' hF ha) X' e'
  exact ⟨s₂, o, st' _ st, r⟩
theorem Go.newR (C : Cx p s m meth c code ml rty nm own Z) {cC : String} {ix : Nat} (w1 : (Jvm.Cond.classLink own ix cC).before a0 Z = true) (w2 : (Jvm.Cond.arrayOver (.object cC)).before a0 Z = true) {z : Int32} (hz : ¬ z < 0) {cap : Nat} (hcap : z.toNatClampNeg ≤ cap) (hb : cap * 8 ≤ 536870912) (hd : decode code pc = .ok (.anewarray ix, 3)) (hp : pc + 3 = pc')
    (hk : k + 1 = k') (hn : n + cap = n') (hc : k' ≤ R.cells) (hl : n' ≤ R.slots)
    (K : ∀ (a : Addr) (h' : Heap) (kA : ClassId), a = h.size → Z.heap.size ≤ a → Ext h h' → Ovr Z kA cC → Arv Z h' a kA (.object cC) z [] .null → Go p l e R s m args below meth c Z Q h' k' n' (mkF m pc' Ls (.ref a :: St))) :
    Go p l e R s m args below meth c Z Q h k n (mkF m pc Ls (.int z :: St)) := by
  subst hp hk hn
  intro T L hE hF X eT
  obtain ⟨T', h2, kA, X', e', E', A', O', st'⟩ := Jvm.RoadKit.newR X C.hx C.hZ C.hown w1 w2 eT (g := mkF m pc Ls (.int z :: St)) rfl (C.d hd) rfl hz hcap hb hc hl
  obtain ⟨s₂, o, st, r⟩ := K _ h2 kA rfl hE.1 E' O' (Arv.new A' hz) T' L (ext_trans hE E') hF X' e'
  exact ⟨s₂, o, st' _ st, r⟩
/-- invokevirtual of a private method -/
theorem Go.privB (C : Cx p s m meth c code ml rty nm own Z) {a : Addr} {cl : String} (P : ∀ s', Z.Warmed39 s'.vm → Ext Z.heap h → Pay l R p e below s' args y 3 W as' h dc ds Qr) (hQ : ∀ v h' L, Ext Z.heap h → Qr v h' L → Q' v h' ∧ Ext Z.heap h' ∧ Fr Z.heap.size L) (E : Exa Z h a cl) (wl : (Jvm.Cond.methodLink own idx y).before a0 Z = true) (wi : (Jvm.Cond.instanceMethod y).before a0 Z = true) (wse : (Jvm.Cond.selects y.cls y y).before a0 Z = true) (wp : (Jvm.Cond.privateMethod y).before a0 Z = true)
    (wc : (Jvm.Cond.code y bytes ml' ret').before a0 Z = true)
    (hy : y.cls ≠ "java/lang/invoke/MethodHandle" ∧ y.cls ≠ "java/lang/invoke/VarHandle") (hpd : parseMethodDescriptor y.desc = some ⟨ps, rt⟩) (hlen : argsL.length = ps.length) (has : (.ref a :: argsL).toArray = as') (hd : decode code pc = .ok (.invokevirtual idx, 3)) (hp : pc + 3 = pc') (hs : Ls.size = ml) (hst : St = argsL.reverse ++ .ref a :: rest)
    (hW : (rest.map fun v => v.category).sum ≤ W) (hk : k + dc = k') (hn : n + ds = n') (hc : k' ≤ R.cells) (hsl : n' ≤ R.slots)
    (K : ∀ v h', Q' v h' → Go p l e R s m args below meth c Z Q h' k' n' (mkF m pc' Ls (v.toList ++ rest))) : Go p l e R s m args below meth c Z Q h k n (mkF m pc Ls St) := by
  subst hp hk hn
  intro T L hE hF X eT
  obtain ⟨cq, q1, q2⟩ := E.cell
  obtain ⟨v, vm₁, ⟨T', L', k', n'⟩, -, X', ⟨Lc, hq, hL, hk, hn⟩, st'⟩ := X.privateBack C.hx (y := y) C.hown (mvT C.hZ wl) (mvT C.hZ wi) (mvT C.hZ wse) (Cond.privateMethod_at (mvP C.hZ wp (args := #[]))) (mvT C.hZ wc) hy (P s C.hZ hE) (g := mkF m pc Ls St) rfl (hs.trans C.hml.symm) (Steps.refl _) (a := a) (by rw [eT]; exact q1) q2 (argsL := argsL) (rest := rest) (lenOf hpd hlen) hst (by show 2 * 0 + _ ≤ _; omega) (C.d hd) (fun _ _ => ⟨has, eT, hc, hsl⟩)
  dsimp only [Pt.U, Pt.locs, Pt.cells, Pt.slots] at X' hL hk hn st' hq
  subst hL hk hn
  obtain ⟨hq, hE', hF'⟩ := hQ _ _ _ hE hq
  obtain ⟨s₂, o, st, r⟩ := K v _ hq T' _ hE' (Fr.app hF hF') X' rfl
  exact ⟨s₂, o, st'.trans st, r⟩
/-- invokeinterface, the interface's own method -/
theorem Go.ifaceB (C : Cx p s m meth c code ml rty nm own Z) {a : Addr} {cl : String} {xi : MethodName} {cnt : Nat} (P : ∀ s', Z.Warmed39 s'.vm → Ext Z.heap h → Pay l R p e below s' args y 5 W as' h dc ds Qr) (hQ : ∀ v h' L, Ext Z.heap h → Qr v h' L → Q' v h' ∧ Ext Z.heap h' ∧ Fr Z.heap.size L) (E : Exa Z h a cl) (wl : (Jvm.Cond.methodLink own idx xi).before a0 Z = true) (wd : (Jvm.Cond.declares xi).before a0 Z = true) (wf : (Jvm.Cond.interfaceMethod xi.cls xi.cls xi.name xi.desc).before a0 Z = true) (wse : (Jvm.Cond.selects cl xi y).before a0 Z = true)
    (wi : (Jvm.Cond.instanceMethod y).before a0 Z = true) (wpu : (Jvm.Cond.publicMethod y).before a0 Z = true) (wu : (Jvm.Cond.unhidden cl xi.name xi.desc).before a0 Z = true) (wca : (Jvm.Cond.castable cl xi.cls).before a0 Z = true)
    (hy : xi.cls ≠ "java/lang/invoke/MethodHandle" ∧ xi.cls ≠ "java/lang/invoke/VarHandle") (hpd : parseMethodDescriptor xi.desc = some ⟨ps, rt⟩) (hlen : argsL.length = ps.length) (has : (.ref a :: argsL).toArray = as') (hd : decode code pc = .ok (.invokeinterface idx cnt, 5)) (hp : pc + 5 = pc') (hs : Ls.size = ml) (hst : St = argsL.reverse ++ .ref a :: rest)
    (hW : (rest.map fun v => v.category).sum ≤ W) (hk : k + dc = k') (hn : n + ds = n') (hc : k' ≤ R.cells) (hsl : n' ≤ R.slots)
    (K : ∀ v h', Q' v h' → Go p l e R s m args below meth c Z Q h' k' n' (mkF m pc' Ls (v.toList ++ rest))) : Go p l e R s m args below meth c Z Q h k n (mkF m pc Ls St) := by
  subst hp hk hn
  intro T L hE hF X eT
  obtain ⟨cq, kq, qa, qb, qc⟩ := isOf (T := T) C.hZ eT E
  obtain ⟨v, vm₁, ⟨T', L', k', n'⟩, -, X', ⟨Lc, hq, hL, hk, hn⟩, st'⟩ := X.interfaceBack C.hx (xi := xi) (y := y) C.hown (mvT C.hZ wl) (mvT C.hZ wd) (mvT C.hZ wf (faceOk hy)) (mvT C.hZ wse) (mvT C.hZ wi) (mvT C.hZ wpu) (mvT C.hZ wu) (mvT C.hZ wca) hy (P s C.hZ hE) qa qb qc (g := mkF m pc Ls St) rfl (hs.trans C.hml.symm) (Steps.refl _) (argsL := argsL) (rest := rest) (lenOf hpd hlen) hst (by show 2 * 0 + _ ≤ _; omega) (C.d hd) (fun _ _ => ⟨has, eT, hc, hsl⟩)
  dsimp only [Pt.U, Pt.locs, Pt.cells, Pt.slots] at X' hL hk hn st' hq
  subst hL hk hn
  obtain ⟨hq, hE', hF'⟩ := hQ _ _ _ hE hq
  obtain ⟨s₂, o, st, r⟩ := K v _ hq T' _ hE' (Fr.app hF hF') X' rfl
  exact ⟨s₂, o, st'.trans st, r⟩
end Core
end Jvm.Own
namespace Jvm.Pilot.@@N@@
open Jvm Jvm.ClassFile Sem Op Lib Jvm.Free Jvm.Stand Jvm.LawKit Jvm.RoadKit Bundle Jvm.Own Jvm.Pilot.@@N@@.Jvm.D
theorem pd_0 : parseMethodDescriptor "(I)Lcom/example/accessio/accessio/LinkType;" = some ⟨[.int], some (.object "com/example/accessio/accessio/LinkType")⟩ := by decide +kernel
theorem pd_1 : parseMethodDescriptor "()Z" = some ⟨[], some .boolean⟩ := by decide +kernel
theorem mod6 (x : Int32) : ((x &&& (2147483647 : Int32)) % (6 : Int32)) = 0 ∨ ((x &&& (2147483647 : Int32)) % (6 : Int32)) = 1 ∨ ((x &&& (2147483647 : Int32)) % (6 : Int32)) = 2 ∨ ((x &&& (2147483647 : Int32)) % (6 : Int32)) = 3 ∨ ((x &&& (2147483647 : Int32)) % (6 : Int32)) = 4 ∨ ((x &&& (2147483647 : Int32)) % (6 : Int32)) = 5 := by
  have h1 := c_mask x 2147483647 31 (by decide) (by decide)
  have h2 := (c_irem (x &&& 2147483647) 6 6 (by decide)).1 (by rw [h1]; omega)
  have e0 : (0 : Int32).toInt = 0 := rfl
  have e1 : (1 : Int32).toInt = 1 := rfl
  have e2 : (2 : Int32).toInt = 2 := rfl
  have e3 : (3 : Int32).toInt = 3 := rfl
  have e4 : (4 : Int32).toInt = 4 := rfl
  have e5 : (5 : Int32).toInt = 5 := rfl
  simp only [← Int32.toInt_inj, e0, e1, e2, e3, e4, e5]
  omega
theorem d_toN_0 : decode prog_14_method_6_code 0 = .ok (.aload_n 0, 1) := by decide +kernel
theorem d_toN_1 : decode prog_14_method_6_code 1 = .ok (.getfield 45, 3) := by decide +kernel
theorem d_toN_4 : decode prog_14_method_6_code 4 = .ok (.ifnonnull 7, 3) := by decide +kernel
theorem d_toN_7 : decode prog_14_method_6_code 7 = .ok (.iconst 1, 1) := by decide +kernel
theorem d_toN_8 : decode prog_14_method_6_code 8 = .ok (.goto 4, 3) := by decide +kernel
theorem d_toN_12 : decode prog_14_method_6_code 12 = .ok (.ireturn, 1) := by decide +kernel
theorem pn_toN : plainName "com/example/accessio/accessio/LinkType" = true := by first | (simp [plainName, overriddenIn]; done) | decide +kernel
theorem ef_toN (m : MethodId) (x0 : Addr)  : entryFrame m #[(.ref x0)] 1 = mkF m 0 #[.val (.ref x0)] [] := by first | (simp [entryFrame, mkF, argsToLocals, Value.category]; done) | rfl
set_option maxRecDepth 65536 in
set_option maxHeartbeats 40000000 in
theorem P_toN (l : Launch) (Z : State) (a0 : Array Value) (hw : ∀ d ∈ tables_1, d.before a0 Z = true) (a : Addr) (h0 : Heap) (F : Fld Z h0 a "com/example/accessio/accessio/LinkType" "reverse" "Ljava/lang/String;" .null) :
    Pays l Z (⟨"com/example/accessio/accessio/LinkType", "toAddress", "()Z"⟩ : MethodName) prog_14_method_6_code 1 (some .boolean) ({ frames := 0, cells := 0, slots := 0, locals := 0 } : Room) #[(.ref a)] h0 (fun v h => v = some (.int (1 : Int32)) ∧ h0 = h) := by
  refine pays_of_go (plainFor_of_name pn_toN) (fun m => ef_toN m a) ?_
  intro p e s m below meth c C0
  have C : Cx p s m meth c prog_14_method_6_code 1 (some .boolean) "toAddress" "com/example/accessio/accessio/LinkType" Z := C0
  show Go p l e ({ frames := 0, cells := 0, slots := 0, locals := 0 } : Room) s m #[(.ref a)] below meth c Z (fun v h => v = some (.int (1 : Int32)) ∧ h0 = h) h0 0 0 (mkF m 0 #[.val (.ref a)] [])
  refine Go.plain (g' := (mkF m 1 #[.val (.ref a)] [(.ref a)])) (fun T L X t q => XS.aloadN X.here C.hx rfl (C.d d_toN_0) rfl rfl q) ?_
  refine Go.getF C (host := "") (Or.inl (hw _ (List.mem_of_getElem? (i := 13) rfl))) Via.refl F d_toN_1 (pc' := 4) rfl ?_
  refine Go.plain (g' := (mkF m 7 #[.val (.ref a)] [])) (fun T L X t q => XS.ifnonnullNo X.here C.hx rfl (C.d d_toN_4) rfl q) ?_
  refine Go.plain (g' := (mkF m 8 #[.val (.ref a)] [(.int (1 : Int32))])) (fun T L X t q => XS.iconst X.here C.hx rfl (C.d d_toN_7) q) ?_
  refine Go.plain (g' := (mkF m 12 #[.val (.ref a)] [(.int (1 : Int32))])) (fun T L X t q => XS.goto X.here C.hx rfl (pc0 := 8) (pc' := 12) rfl (C.d d_toN_8) (by decide) (by decide) q) ?_
  exact Go.retN C (by simp) d_toN_12 (by decide) (by decide) ⟨rfl, rfl⟩
theorem d_toR_0 : decode prog_14_method_6_code 0 = .ok (.aload_n 0, 1) := by decide +kernel
theorem d_toR_1 : decode prog_14_method_6_code 1 = .ok (.getfield 45, 3) := by decide +kernel
theorem d_toR_4 : decode prog_14_method_6_code 4 = .ok (.ifnonnull 7, 3) := by decide +kernel
theorem d_toR_11 : decode prog_14_method_6_code 11 = .ok (.iconst 0, 1) := by decide +kernel
theorem d_toR_12 : decode prog_14_method_6_code 12 = .ok (.ireturn, 1) := by decide +kernel
theorem pn_toR : plainName "com/example/accessio/accessio/LinkType" = true := by first | (simp [plainName, overriddenIn]; done) | decide +kernel
theorem ef_toR (m : MethodId) (x0 : Addr)  : entryFrame m #[(.ref x0)] 1 = mkF m 0 #[.val (.ref x0)] [] := by first | (simp [entryFrame, mkF, argsToLocals, Value.category]; done) | rfl
set_option maxRecDepth 65536 in
set_option maxHeartbeats 40000000 in
theorem P_toR (l : Launch) (Z : State) (a0 : Array Value) (hw : ∀ d ∈ tables_1, d.before a0 Z = true) (a : Addr) (b : Addr) (h0 : Heap) (F : Fld Z h0 a "com/example/accessio/accessio/LinkType" "reverse" "Ljava/lang/String;" (.ref b)) :
    Pays l Z (⟨"com/example/accessio/accessio/LinkType", "toAddress", "()Z"⟩ : MethodName) prog_14_method_6_code 1 (some .boolean) ({ frames := 0, cells := 0, slots := 0, locals := 0 } : Room) #[(.ref a)] h0 (fun v h => v = some (.int (0 : Int32)) ∧ h0 = h) := by
  refine pays_of_go (plainFor_of_name pn_toR) (fun m => ef_toR m a) ?_
  intro p e s m below meth c C0
  have C : Cx p s m meth c prog_14_method_6_code 1 (some .boolean) "toAddress" "com/example/accessio/accessio/LinkType" Z := C0
  show Go p l e ({ frames := 0, cells := 0, slots := 0, locals := 0 } : Room) s m #[(.ref a)] below meth c Z (fun v h => v = some (.int (0 : Int32)) ∧ h0 = h) h0 0 0 (mkF m 0 #[.val (.ref a)] [])
  refine Go.plain (g' := (mkF m 1 #[.val (.ref a)] [(.ref a)])) (fun T L X t q => XS.aloadN X.here C.hx rfl (C.d d_toR_0) rfl rfl q) ?_
  refine Go.getF C (host := "") (Or.inl (hw _ (List.mem_of_getElem? (i := 13) rfl))) Via.refl F d_toR_1 (pc' := 4) rfl ?_
  refine Go.plain (g' := (mkF m 11 #[.val (.ref a)] [])) (fun T L X t q => XS.ifnonnullYes X.here C.hx rfl (pc0 := 4) (pc' := 11) rfl (C.d d_toR_4) rfl (by decide) (by decide) q) ?_
  refine Go.plain (g' := (mkF m 12 #[.val (.ref a)] [(.int (0 : Int32))])) (fun T L X t q => XS.iconst X.here C.hx rfl (C.d d_toR_11) q) ?_
  exact Go.retN C (by simp) d_toR_12 (by decide) (by decide) ⟨rfl, rfl⟩
theorem d_pick0_0 : decode method_2_code 0 = .ok (.iload_n 0, 1) := by decide +kernel
theorem d_pick0_1 : decode method_2_code 1 = .ok (.ifCond .ne 7, 3) := by decide +kernel
theorem d_pick0_4 : decode method_2_code 4 = .ok (.getstatic 7, 3) := by decide +kernel
theorem d_pick0_7 : decode method_2_code 7 = .ok (.areturn, 1) := by decide +kernel
theorem pn_pick0 : plainName "com/example/accessio/accessio/LinkTypeToAddressPinLaw" = true := by first | (simp [plainName, overriddenIn]; done) | decide +kernel
theorem ef_pick0 (m : MethodId) (x0 : Int32)  : entryFrame m #[(.int x0)] 1 = mkF m 0 #[.val (.int x0)] [] := by first | (simp [entryFrame, mkF, argsToLocals, Value.category]; done) | rfl
set_option maxRecDepth 65536 in
set_option maxHeartbeats 40000000 in
theorem P_pick0 (l : Launch) (Z : State) (a0 : Array Value) (hw : ∀ d ∈ tables_1, d.before a0 Z = true) (c0 : Addr) (h0 : Heap) (S0 : Sta Z Z.heap "com/example/accessio/accessio/LinkType" "HAS_CHAPTER" "Lcom/example/accessio/accessio/LinkType;" (.ref c0)) :
    Pays l Z (⟨"com/example/accessio/accessio/LinkTypeToAddressPinLaw", "pick", "(I)Lcom/example/accessio/accessio/LinkType;"⟩ : MethodName) method_2_code 1 (some (.object "com/example/accessio/accessio/LinkType")) ({ frames := 0, cells := 0, slots := 0, locals := 0 } : Room) #[(.int (0 : Int32))] h0 (fun v h => v = some (.ref c0) ∧ h0 = h) := by
  refine pays_of_go (plainFor_of_name pn_pick0) (fun m => ef_pick0 m (0 : Int32)) ?_
  intro p e s m below meth c C0
  have C : Cx p s m meth c method_2_code 1 (some (.object "com/example/accessio/accessio/LinkType")) "pick" "com/example/accessio/accessio/LinkTypeToAddressPinLaw" Z := C0
  show Go p l e ({ frames := 0, cells := 0, slots := 0, locals := 0 } : Room) s m #[(.int (0 : Int32))] below meth c Z (fun v h => v = some (.ref c0) ∧ h0 = h) h0 0 0 (mkF m 0 #[.val (.int (0 : Int32))] [])
  refine Go.plain (g' := (mkF m 1 #[.val (.int (0 : Int32))] [(.int (0 : Int32))])) (fun T L X t q => XS.iloadN X.here C.hx rfl (C.d d_pick0_0) rfl q) ?_
  refine Go.plain (g' := (mkF m 4 #[.val (.int (0 : Int32))] [])) (fun T L X t q => XS.ifNo X.here C.hx rfl (C.d d_pick0_1) rfl ((if0 _ _).trans (teq (rfl : (0 : Int32) = (0 : Int32))).2) q) ?_
  refine Go.getS C (host := "") (Or.inl (hw _ (List.mem_of_getElem? (i := 5) rfl))) Via.refl S0 d_pick0_4 (pc' := 7) rfl ?_
  exact Go.retA C rfl rfl rfl d_pick0_7 (by decide) (by decide) ⟨rfl, rfl⟩
theorem d_pick1_0 : decode method_2_code 0 = .ok (.iload_n 0, 1) := by decide +kernel
theorem d_pick1_1 : decode method_2_code 1 = .ok (.ifCond .ne 7, 3) := by decide +kernel
theorem d_pick1_8 : decode method_2_code 8 = .ok (.iload_n 0, 1) := by decide +kernel
theorem d_pick1_9 : decode method_2_code 9 = .ok (.iconst 1, 1) := by decide +kernel
theorem d_pick1_10 : decode method_2_code 10 = .ok (.if_icmp .ne 7, 3) := by decide +kernel
theorem d_pick1_13 : decode method_2_code 13 = .ok (.getstatic 13, 3) := by decide +kernel
theorem d_pick1_16 : decode method_2_code 16 = .ok (.areturn, 1) := by decide +kernel
theorem pn_pick1 : plainName "com/example/accessio/accessio/LinkTypeToAddressPinLaw" = true := by first | (simp [plainName, overriddenIn]; done) | decide +kernel
theorem ef_pick1 (m : MethodId) (x0 : Int32)  : entryFrame m #[(.int x0)] 1 = mkF m 0 #[.val (.int x0)] [] := by first | (simp [entryFrame, mkF, argsToLocals, Value.category]; done) | rfl
set_option maxRecDepth 65536 in
set_option maxHeartbeats 40000000 in
theorem P_pick1 (l : Launch) (Z : State) (a0 : Array Value) (hw : ∀ d ∈ tables_1, d.before a0 Z = true) (c1 : Addr) (h0 : Heap) (S1 : Sta Z Z.heap "com/example/accessio/accessio/LinkType" "HAS_ARTICLE" "Lcom/example/accessio/accessio/LinkType;" (.ref c1)) :
    Pays l Z (⟨"com/example/accessio/accessio/LinkTypeToAddressPinLaw", "pick", "(I)Lcom/example/accessio/accessio/LinkType;"⟩ : MethodName) method_2_code 1 (some (.object "com/example/accessio/accessio/LinkType")) ({ frames := 0, cells := 0, slots := 0, locals := 0 } : Room) #[(.int (1 : Int32))] h0 (fun v h => v = some (.ref c1) ∧ h0 = h) := by
  refine pays_of_go (plainFor_of_name pn_pick1) (fun m => ef_pick1 m (1 : Int32)) ?_
  intro p e s m below meth c C0
  have C : Cx p s m meth c method_2_code 1 (some (.object "com/example/accessio/accessio/LinkType")) "pick" "com/example/accessio/accessio/LinkTypeToAddressPinLaw" Z := C0
  show Go p l e ({ frames := 0, cells := 0, slots := 0, locals := 0 } : Room) s m #[(.int (1 : Int32))] below meth c Z (fun v h => v = some (.ref c1) ∧ h0 = h) h0 0 0 (mkF m 0 #[.val (.int (1 : Int32))] [])
  refine Go.plain (g' := (mkF m 1 #[.val (.int (1 : Int32))] [(.int (1 : Int32))])) (fun T L X t q => XS.iloadN X.here C.hx rfl (C.d d_pick1_0) rfl q) ?_
  refine Go.plain (g' := (mkF m 8 #[.val (.int (1 : Int32))] [])) (fun T L X t q => XS.ifYes X.here C.hx rfl (pc0 := 1) (pc' := 8) rfl (C.d d_pick1_1) rfl ((if0 _ _).trans (feq (by decide : ¬ ((1 : Int32) = (0 : Int32)))).2) (by decide) (by decide) q) ?_
  refine Go.plain (g' := (mkF m 9 #[.val (.int (1 : Int32))] [(.int (1 : Int32))])) (fun T L X t q => XS.iloadN X.here C.hx rfl (C.d d_pick1_8) rfl q) ?_
  refine Go.plain (g' := (mkF m 10 #[.val (.int (1 : Int32))] [(.int (1 : Int32)), (.int (1 : Int32))])) (fun T L X t q => XS.iconst X.here C.hx rfl (C.d d_pick1_9) q) ?_
  refine Go.plain (g' := (mkF m 13 #[.val (.int (1 : Int32))] [])) (fun T L X t q => XS.icmpNo X.here C.hx rfl (C.d d_pick1_10) rfl (teq (rfl : (1 : Int32) = (1 : Int32))).2 q) ?_
  refine Go.getS C (host := "") (Or.inl (hw _ (List.mem_of_getElem? (i := 19) rfl))) Via.refl S1 d_pick1_13 (pc' := 16) rfl ?_
  exact Go.retA C rfl rfl rfl d_pick1_16 (by decide) (by decide) ⟨rfl, rfl⟩
theorem d_pick2_0 : decode method_2_code 0 = .ok (.iload_n 0, 1) := by decide +kernel
theorem d_pick2_1 : decode method_2_code 1 = .ok (.ifCond .ne 7, 3) := by decide +kernel
theorem d_pick2_8 : decode method_2_code 8 = .ok (.iload_n 0, 1) := by decide +kernel
theorem d_pick2_9 : decode method_2_code 9 = .ok (.iconst 1, 1) := by decide +kernel
theorem d_pick2_10 : decode method_2_code 10 = .ok (.if_icmp .ne 7, 3) := by decide +kernel
theorem d_pick2_17 : decode method_2_code 17 = .ok (.iload_n 0, 1) := by decide +kernel
theorem d_pick2_18 : decode method_2_code 18 = .ok (.iconst 2, 1) := by decide +kernel
theorem d_pick2_19 : decode method_2_code 19 = .ok (.if_icmp .ne 7, 3) := by decide +kernel
theorem d_pick2_22 : decode method_2_code 22 = .ok (.getstatic 16, 3) := by decide +kernel
theorem d_pick2_25 : decode method_2_code 25 = .ok (.areturn, 1) := by decide +kernel
theorem pn_pick2 : plainName "com/example/accessio/accessio/LinkTypeToAddressPinLaw" = true := by first | (simp [plainName, overriddenIn]; done) | decide +kernel
theorem ef_pick2 (m : MethodId) (x0 : Int32)  : entryFrame m #[(.int x0)] 1 = mkF m 0 #[.val (.int x0)] [] := by first | (simp [entryFrame, mkF, argsToLocals, Value.category]; done) | rfl
set_option maxRecDepth 65536 in
set_option maxHeartbeats 40000000 in
theorem P_pick2 (l : Launch) (Z : State) (a0 : Array Value) (hw : ∀ d ∈ tables_1, d.before a0 Z = true) (c2 : Addr) (h0 : Heap) (S2 : Sta Z Z.heap "com/example/accessio/accessio/LinkType" "OTHER_LANGUAGE" "Lcom/example/accessio/accessio/LinkType;" (.ref c2)) :
    Pays l Z (⟨"com/example/accessio/accessio/LinkTypeToAddressPinLaw", "pick", "(I)Lcom/example/accessio/accessio/LinkType;"⟩ : MethodName) method_2_code 1 (some (.object "com/example/accessio/accessio/LinkType")) ({ frames := 0, cells := 0, slots := 0, locals := 0 } : Room) #[(.int (2 : Int32))] h0 (fun v h => v = some (.ref c2) ∧ h0 = h) := by
  refine pays_of_go (plainFor_of_name pn_pick2) (fun m => ef_pick2 m (2 : Int32)) ?_
  intro p e s m below meth c C0
  have C : Cx p s m meth c method_2_code 1 (some (.object "com/example/accessio/accessio/LinkType")) "pick" "com/example/accessio/accessio/LinkTypeToAddressPinLaw" Z := C0
  show Go p l e ({ frames := 0, cells := 0, slots := 0, locals := 0 } : Room) s m #[(.int (2 : Int32))] below meth c Z (fun v h => v = some (.ref c2) ∧ h0 = h) h0 0 0 (mkF m 0 #[.val (.int (2 : Int32))] [])
  refine Go.plain (g' := (mkF m 1 #[.val (.int (2 : Int32))] [(.int (2 : Int32))])) (fun T L X t q => XS.iloadN X.here C.hx rfl (C.d d_pick2_0) rfl q) ?_
  refine Go.plain (g' := (mkF m 8 #[.val (.int (2 : Int32))] [])) (fun T L X t q => XS.ifYes X.here C.hx rfl (pc0 := 1) (pc' := 8) rfl (C.d d_pick2_1) rfl ((if0 _ _).trans (feq (by decide : ¬ ((2 : Int32) = (0 : Int32)))).2) (by decide) (by decide) q) ?_
  refine Go.plain (g' := (mkF m 9 #[.val (.int (2 : Int32))] [(.int (2 : Int32))])) (fun T L X t q => XS.iloadN X.here C.hx rfl (C.d d_pick2_8) rfl q) ?_
  refine Go.plain (g' := (mkF m 10 #[.val (.int (2 : Int32))] [(.int (1 : Int32)), (.int (2 : Int32))])) (fun T L X t q => XS.iconst X.here C.hx rfl (C.d d_pick2_9) q) ?_
  refine Go.plain (g' := (mkF m 17 #[.val (.int (2 : Int32))] [])) (fun T L X t q => XS.icmpYes X.here C.hx rfl (pc0 := 10) (pc' := 17) rfl (C.d d_pick2_10) rfl (feq (by decide : ¬ ((2 : Int32) = (1 : Int32)))).2 (by decide) (by decide) q) ?_
  refine Go.plain (g' := (mkF m 18 #[.val (.int (2 : Int32))] [(.int (2 : Int32))])) (fun T L X t q => XS.iloadN X.here C.hx rfl (C.d d_pick2_17) rfl q) ?_
  refine Go.plain (g' := (mkF m 19 #[.val (.int (2 : Int32))] [(.int (2 : Int32)), (.int (2 : Int32))])) (fun T L X t q => XS.iconst X.here C.hx rfl (C.d d_pick2_18) q) ?_
  refine Go.plain (g' := (mkF m 22 #[.val (.int (2 : Int32))] [])) (fun T L X t q => XS.icmpNo X.here C.hx rfl (C.d d_pick2_19) rfl (teq (rfl : (2 : Int32) = (2 : Int32))).2 q) ?_
  refine Go.getS C (host := "") (Or.inl (hw _ (List.mem_of_getElem? (i := 17) rfl))) Via.refl S2 d_pick2_22 (pc' := 25) rfl ?_
  exact Go.retA C rfl rfl rfl d_pick2_25 (by decide) (by decide) ⟨rfl, rfl⟩
theorem d_pick3_0 : decode method_2_code 0 = .ok (.iload_n 0, 1) := by decide +kernel
theorem d_pick3_1 : decode method_2_code 1 = .ok (.ifCond .ne 7, 3) := by decide +kernel
theorem d_pick3_8 : decode method_2_code 8 = .ok (.iload_n 0, 1) := by decide +kernel
theorem d_pick3_9 : decode method_2_code 9 = .ok (.iconst 1, 1) := by decide +kernel
theorem d_pick3_10 : decode method_2_code 10 = .ok (.if_icmp .ne 7, 3) := by decide +kernel
theorem d_pick3_17 : decode method_2_code 17 = .ok (.iload_n 0, 1) := by decide +kernel
theorem d_pick3_18 : decode method_2_code 18 = .ok (.iconst 2, 1) := by decide +kernel
theorem d_pick3_19 : decode method_2_code 19 = .ok (.if_icmp .ne 7, 3) := by decide +kernel
theorem d_pick3_26 : decode method_2_code 26 = .ok (.iload_n 0, 1) := by decide +kernel
theorem d_pick3_27 : decode method_2_code 27 = .ok (.iconst 3, 1) := by decide +kernel
theorem d_pick3_28 : decode method_2_code 28 = .ok (.if_icmp .ne 7, 3) := by decide +kernel
theorem d_pick3_31 : decode method_2_code 31 = .ok (.getstatic 19, 3) := by decide +kernel
theorem d_pick3_34 : decode method_2_code 34 = .ok (.areturn, 1) := by decide +kernel
theorem pn_pick3 : plainName "com/example/accessio/accessio/LinkTypeToAddressPinLaw" = true := by first | (simp [plainName, overriddenIn]; done) | decide +kernel
theorem ef_pick3 (m : MethodId) (x0 : Int32)  : entryFrame m #[(.int x0)] 1 = mkF m 0 #[.val (.int x0)] [] := by first | (simp [entryFrame, mkF, argsToLocals, Value.category]; done) | rfl
set_option maxRecDepth 65536 in
set_option maxHeartbeats 40000000 in
theorem P_pick3 (l : Launch) (Z : State) (a0 : Array Value) (hw : ∀ d ∈ tables_1, d.before a0 Z = true) (c3 : Addr) (h0 : Heap) (S3 : Sta Z Z.heap "com/example/accessio/accessio/LinkType" "REPLACES" "Lcom/example/accessio/accessio/LinkType;" (.ref c3)) :
    Pays l Z (⟨"com/example/accessio/accessio/LinkTypeToAddressPinLaw", "pick", "(I)Lcom/example/accessio/accessio/LinkType;"⟩ : MethodName) method_2_code 1 (some (.object "com/example/accessio/accessio/LinkType")) ({ frames := 0, cells := 0, slots := 0, locals := 0 } : Room) #[(.int (3 : Int32))] h0 (fun v h => v = some (.ref c3) ∧ h0 = h) := by
  refine pays_of_go (plainFor_of_name pn_pick3) (fun m => ef_pick3 m (3 : Int32)) ?_
  intro p e s m below meth c C0
  have C : Cx p s m meth c method_2_code 1 (some (.object "com/example/accessio/accessio/LinkType")) "pick" "com/example/accessio/accessio/LinkTypeToAddressPinLaw" Z := C0
  show Go p l e ({ frames := 0, cells := 0, slots := 0, locals := 0 } : Room) s m #[(.int (3 : Int32))] below meth c Z (fun v h => v = some (.ref c3) ∧ h0 = h) h0 0 0 (mkF m 0 #[.val (.int (3 : Int32))] [])
  refine Go.plain (g' := (mkF m 1 #[.val (.int (3 : Int32))] [(.int (3 : Int32))])) (fun T L X t q => XS.iloadN X.here C.hx rfl (C.d d_pick3_0) rfl q) ?_
  refine Go.plain (g' := (mkF m 8 #[.val (.int (3 : Int32))] [])) (fun T L X t q => XS.ifYes X.here C.hx rfl (pc0 := 1) (pc' := 8) rfl (C.d d_pick3_1) rfl ((if0 _ _).trans (feq (by decide : ¬ ((3 : Int32) = (0 : Int32)))).2) (by decide) (by decide) q) ?_
  refine Go.plain (g' := (mkF m 9 #[.val (.int (3 : Int32))] [(.int (3 : Int32))])) (fun T L X t q => XS.iloadN X.here C.hx rfl (C.d d_pick3_8) rfl q) ?_
  refine Go.plain (g' := (mkF m 10 #[.val (.int (3 : Int32))] [(.int (1 : Int32)), (.int (3 : Int32))])) (fun T L X t q => XS.iconst X.here C.hx rfl (C.d d_pick3_9) q) ?_
  refine Go.plain (g' := (mkF m 17 #[.val (.int (3 : Int32))] [])) (fun T L X t q => XS.icmpYes X.here C.hx rfl (pc0 := 10) (pc' := 17) rfl (C.d d_pick3_10) rfl (feq (by decide : ¬ ((3 : Int32) = (1 : Int32)))).2 (by decide) (by decide) q) ?_
  refine Go.plain (g' := (mkF m 18 #[.val (.int (3 : Int32))] [(.int (3 : Int32))])) (fun T L X t q => XS.iloadN X.here C.hx rfl (C.d d_pick3_17) rfl q) ?_
  refine Go.plain (g' := (mkF m 19 #[.val (.int (3 : Int32))] [(.int (2 : Int32)), (.int (3 : Int32))])) (fun T L X t q => XS.iconst X.here C.hx rfl (C.d d_pick3_18) q) ?_
  refine Go.plain (g' := (mkF m 26 #[.val (.int (3 : Int32))] [])) (fun T L X t q => XS.icmpYes X.here C.hx rfl (pc0 := 19) (pc' := 26) rfl (C.d d_pick3_19) rfl (feq (by decide : ¬ ((3 : Int32) = (2 : Int32)))).2 (by decide) (by decide) q) ?_
  refine Go.plain (g' := (mkF m 27 #[.val (.int (3 : Int32))] [(.int (3 : Int32))])) (fun T L X t q => XS.iloadN X.here C.hx rfl (C.d d_pick3_26) rfl q) ?_
  refine Go.plain (g' := (mkF m 28 #[.val (.int (3 : Int32))] [(.int (3 : Int32)), (.int (3 : Int32))])) (fun T L X t q => XS.iconst X.here C.hx rfl (C.d d_pick3_27) q) ?_
  refine Go.plain (g' := (mkF m 31 #[.val (.int (3 : Int32))] [])) (fun T L X t q => XS.icmpNo X.here C.hx rfl (C.d d_pick3_28) rfl (teq (rfl : (3 : Int32) = (3 : Int32))).2 q) ?_
  refine Go.getS C (host := "") (Or.inl (hw _ (List.mem_of_getElem? (i := 15) rfl))) Via.refl S3 d_pick3_31 (pc' := 34) rfl ?_
  exact Go.retA C rfl rfl rfl d_pick3_34 (by decide) (by decide) ⟨rfl, rfl⟩
theorem d_pick4_0 : decode method_2_code 0 = .ok (.iload_n 0, 1) := by decide +kernel
theorem d_pick4_1 : decode method_2_code 1 = .ok (.ifCond .ne 7, 3) := by decide +kernel
theorem d_pick4_8 : decode method_2_code 8 = .ok (.iload_n 0, 1) := by decide +kernel
theorem d_pick4_9 : decode method_2_code 9 = .ok (.iconst 1, 1) := by decide +kernel
theorem d_pick4_10 : decode method_2_code 10 = .ok (.if_icmp .ne 7, 3) := by decide +kernel
theorem d_pick4_17 : decode method_2_code 17 = .ok (.iload_n 0, 1) := by decide +kernel
theorem d_pick4_18 : decode method_2_code 18 = .ok (.iconst 2, 1) := by decide +kernel
theorem d_pick4_19 : decode method_2_code 19 = .ok (.if_icmp .ne 7, 3) := by decide +kernel
theorem d_pick4_26 : decode method_2_code 26 = .ok (.iload_n 0, 1) := by decide +kernel
theorem d_pick4_27 : decode method_2_code 27 = .ok (.iconst 3, 1) := by decide +kernel
theorem d_pick4_28 : decode method_2_code 28 = .ok (.if_icmp .ne 7, 3) := by decide +kernel
theorem d_pick4_35 : decode method_2_code 35 = .ok (.iload_n 0, 1) := by decide +kernel
theorem d_pick4_36 : decode method_2_code 36 = .ok (.iconst 4, 1) := by decide +kernel
theorem d_pick4_37 : decode method_2_code 37 = .ok (.if_icmp .ne 7, 3) := by decide +kernel
theorem d_pick4_40 : decode method_2_code 40 = .ok (.getstatic 22, 3) := by decide +kernel
theorem d_pick4_43 : decode method_2_code 43 = .ok (.areturn, 1) := by decide +kernel
theorem pn_pick4 : plainName "com/example/accessio/accessio/LinkTypeToAddressPinLaw" = true := by first | (simp [plainName, overriddenIn]; done) | decide +kernel
theorem ef_pick4 (m : MethodId) (x0 : Int32)  : entryFrame m #[(.int x0)] 1 = mkF m 0 #[.val (.int x0)] [] := by first | (simp [entryFrame, mkF, argsToLocals, Value.category]; done) | rfl
set_option maxRecDepth 65536 in
set_option maxHeartbeats 40000000 in
theorem P_pick4 (l : Launch) (Z : State) (a0 : Array Value) (hw : ∀ d ∈ tables_1, d.before a0 Z = true) (c4 : Addr) (h0 : Heap) (S4 : Sta Z Z.heap "com/example/accessio/accessio/LinkType" "RELATED_PUBLICATION" "Lcom/example/accessio/accessio/LinkType;" (.ref c4)) :
    Pays l Z (⟨"com/example/accessio/accessio/LinkTypeToAddressPinLaw", "pick", "(I)Lcom/example/accessio/accessio/LinkType;"⟩ : MethodName) method_2_code 1 (some (.object "com/example/accessio/accessio/LinkType")) ({ frames := 0, cells := 0, slots := 0, locals := 0 } : Room) #[(.int (4 : Int32))] h0 (fun v h => v = some (.ref c4) ∧ h0 = h) := by
  refine pays_of_go (plainFor_of_name pn_pick4) (fun m => ef_pick4 m (4 : Int32)) ?_
  intro p e s m below meth c C0
  have C : Cx p s m meth c method_2_code 1 (some (.object "com/example/accessio/accessio/LinkType")) "pick" "com/example/accessio/accessio/LinkTypeToAddressPinLaw" Z := C0
  show Go p l e ({ frames := 0, cells := 0, slots := 0, locals := 0 } : Room) s m #[(.int (4 : Int32))] below meth c Z (fun v h => v = some (.ref c4) ∧ h0 = h) h0 0 0 (mkF m 0 #[.val (.int (4 : Int32))] [])
  refine Go.plain (g' := (mkF m 1 #[.val (.int (4 : Int32))] [(.int (4 : Int32))])) (fun T L X t q => XS.iloadN X.here C.hx rfl (C.d d_pick4_0) rfl q) ?_
  refine Go.plain (g' := (mkF m 8 #[.val (.int (4 : Int32))] [])) (fun T L X t q => XS.ifYes X.here C.hx rfl (pc0 := 1) (pc' := 8) rfl (C.d d_pick4_1) rfl ((if0 _ _).trans (feq (by decide : ¬ ((4 : Int32) = (0 : Int32)))).2) (by decide) (by decide) q) ?_
  refine Go.plain (g' := (mkF m 9 #[.val (.int (4 : Int32))] [(.int (4 : Int32))])) (fun T L X t q => XS.iloadN X.here C.hx rfl (C.d d_pick4_8) rfl q) ?_
  refine Go.plain (g' := (mkF m 10 #[.val (.int (4 : Int32))] [(.int (1 : Int32)), (.int (4 : Int32))])) (fun T L X t q => XS.iconst X.here C.hx rfl (C.d d_pick4_9) q) ?_
  refine Go.plain (g' := (mkF m 17 #[.val (.int (4 : Int32))] [])) (fun T L X t q => XS.icmpYes X.here C.hx rfl (pc0 := 10) (pc' := 17) rfl (C.d d_pick4_10) rfl (feq (by decide : ¬ ((4 : Int32) = (1 : Int32)))).2 (by decide) (by decide) q) ?_
  refine Go.plain (g' := (mkF m 18 #[.val (.int (4 : Int32))] [(.int (4 : Int32))])) (fun T L X t q => XS.iloadN X.here C.hx rfl (C.d d_pick4_17) rfl q) ?_
  refine Go.plain (g' := (mkF m 19 #[.val (.int (4 : Int32))] [(.int (2 : Int32)), (.int (4 : Int32))])) (fun T L X t q => XS.iconst X.here C.hx rfl (C.d d_pick4_18) q) ?_
  refine Go.plain (g' := (mkF m 26 #[.val (.int (4 : Int32))] [])) (fun T L X t q => XS.icmpYes X.here C.hx rfl (pc0 := 19) (pc' := 26) rfl (C.d d_pick4_19) rfl (feq (by decide : ¬ ((4 : Int32) = (2 : Int32)))).2 (by decide) (by decide) q) ?_
  refine Go.plain (g' := (mkF m 27 #[.val (.int (4 : Int32))] [(.int (4 : Int32))])) (fun T L X t q => XS.iloadN X.here C.hx rfl (C.d d_pick4_26) rfl q) ?_
  refine Go.plain (g' := (mkF m 28 #[.val (.int (4 : Int32))] [(.int (3 : Int32)), (.int (4 : Int32))])) (fun T L X t q => XS.iconst X.here C.hx rfl (C.d d_pick4_27) q) ?_
  refine Go.plain (g' := (mkF m 35 #[.val (.int (4 : Int32))] [])) (fun T L X t q => XS.icmpYes X.here C.hx rfl (pc0 := 28) (pc' := 35) rfl (C.d d_pick4_28) rfl (feq (by decide : ¬ ((4 : Int32) = (3 : Int32)))).2 (by decide) (by decide) q) ?_
  refine Go.plain (g' := (mkF m 36 #[.val (.int (4 : Int32))] [(.int (4 : Int32))])) (fun T L X t q => XS.iloadN X.here C.hx rfl (C.d d_pick4_35) rfl q) ?_
  refine Go.plain (g' := (mkF m 37 #[.val (.int (4 : Int32))] [(.int (4 : Int32)), (.int (4 : Int32))])) (fun T L X t q => XS.iconst X.here C.hx rfl (C.d d_pick4_36) q) ?_
  refine Go.plain (g' := (mkF m 40 #[.val (.int (4 : Int32))] [])) (fun T L X t q => XS.icmpNo X.here C.hx rfl (C.d d_pick4_37) rfl (teq (rfl : (4 : Int32) = (4 : Int32))).2 q) ?_
  refine Go.getS C (host := "") (Or.inl (hw _ (List.mem_of_getElem? (i := 23) rfl))) Via.refl S4 d_pick4_40 (pc' := 43) rfl ?_
  exact Go.retA C rfl rfl rfl d_pick4_43 (by decide) (by decide) ⟨rfl, rfl⟩
theorem d_pick5_0 : decode method_2_code 0 = .ok (.iload_n 0, 1) := by decide +kernel
theorem d_pick5_1 : decode method_2_code 1 = .ok (.ifCond .ne 7, 3) := by decide +kernel
theorem d_pick5_8 : decode method_2_code 8 = .ok (.iload_n 0, 1) := by decide +kernel
theorem d_pick5_9 : decode method_2_code 9 = .ok (.iconst 1, 1) := by decide +kernel
theorem d_pick5_10 : decode method_2_code 10 = .ok (.if_icmp .ne 7, 3) := by decide +kernel
theorem d_pick5_17 : decode method_2_code 17 = .ok (.iload_n 0, 1) := by decide +kernel
theorem d_pick5_18 : decode method_2_code 18 = .ok (.iconst 2, 1) := by decide +kernel
theorem d_pick5_19 : decode method_2_code 19 = .ok (.if_icmp .ne 7, 3) := by decide +kernel
theorem d_pick5_26 : decode method_2_code 26 = .ok (.iload_n 0, 1) := by decide +kernel
theorem d_pick5_27 : decode method_2_code 27 = .ok (.iconst 3, 1) := by decide +kernel
theorem d_pick5_28 : decode method_2_code 28 = .ok (.if_icmp .ne 7, 3) := by decide +kernel
theorem d_pick5_35 : decode method_2_code 35 = .ok (.iload_n 0, 1) := by decide +kernel
theorem d_pick5_36 : decode method_2_code 36 = .ok (.iconst 4, 1) := by decide +kernel
theorem d_pick5_37 : decode method_2_code 37 = .ok (.if_icmp .ne 7, 3) := by decide +kernel
theorem d_pick5_44 : decode method_2_code 44 = .ok (.getstatic 25, 3) := by decide +kernel
theorem d_pick5_47 : decode method_2_code 47 = .ok (.areturn, 1) := by decide +kernel
theorem pn_pick5 : plainName "com/example/accessio/accessio/LinkTypeToAddressPinLaw" = true := by first | (simp [plainName, overriddenIn]; done) | decide +kernel
theorem ef_pick5 (m : MethodId) (x0 : Int32)  : entryFrame m #[(.int x0)] 1 = mkF m 0 #[.val (.int x0)] [] := by first | (simp [entryFrame, mkF, argsToLocals, Value.category]; done) | rfl
set_option maxRecDepth 65536 in
set_option maxHeartbeats 40000000 in
theorem P_pick5 (l : Launch) (Z : State) (a0 : Array Value) (hw : ∀ d ∈ tables_1, d.before a0 Z = true) (c5 : Addr) (h0 : Heap) (S5 : Sta Z Z.heap "com/example/accessio/accessio/LinkType" "RELATED_WEBSITE" "Lcom/example/accessio/accessio/LinkType;" (.ref c5)) :
    Pays l Z (⟨"com/example/accessio/accessio/LinkTypeToAddressPinLaw", "pick", "(I)Lcom/example/accessio/accessio/LinkType;"⟩ : MethodName) method_2_code 1 (some (.object "com/example/accessio/accessio/LinkType")) ({ frames := 0, cells := 0, slots := 0, locals := 0 } : Room) #[(.int (5 : Int32))] h0 (fun v h => v = some (.ref c5) ∧ h0 = h) := by
  refine pays_of_go (plainFor_of_name pn_pick5) (fun m => ef_pick5 m (5 : Int32)) ?_
  intro p e s m below meth c C0
  have C : Cx p s m meth c method_2_code 1 (some (.object "com/example/accessio/accessio/LinkType")) "pick" "com/example/accessio/accessio/LinkTypeToAddressPinLaw" Z := C0
  show Go p l e ({ frames := 0, cells := 0, slots := 0, locals := 0 } : Room) s m #[(.int (5 : Int32))] below meth c Z (fun v h => v = some (.ref c5) ∧ h0 = h) h0 0 0 (mkF m 0 #[.val (.int (5 : Int32))] [])
  refine Go.plain (g' := (mkF m 1 #[.val (.int (5 : Int32))] [(.int (5 : Int32))])) (fun T L X t q => XS.iloadN X.here C.hx rfl (C.d d_pick5_0) rfl q) ?_
  refine Go.plain (g' := (mkF m 8 #[.val (.int (5 : Int32))] [])) (fun T L X t q => XS.ifYes X.here C.hx rfl (pc0 := 1) (pc' := 8) rfl (C.d d_pick5_1) rfl ((if0 _ _).trans (feq (by decide : ¬ ((5 : Int32) = (0 : Int32)))).2) (by decide) (by decide) q) ?_
  refine Go.plain (g' := (mkF m 9 #[.val (.int (5 : Int32))] [(.int (5 : Int32))])) (fun T L X t q => XS.iloadN X.here C.hx rfl (C.d d_pick5_8) rfl q) ?_
  refine Go.plain (g' := (mkF m 10 #[.val (.int (5 : Int32))] [(.int (1 : Int32)), (.int (5 : Int32))])) (fun T L X t q => XS.iconst X.here C.hx rfl (C.d d_pick5_9) q) ?_
  refine Go.plain (g' := (mkF m 17 #[.val (.int (5 : Int32))] [])) (fun T L X t q => XS.icmpYes X.here C.hx rfl (pc0 := 10) (pc' := 17) rfl (C.d d_pick5_10) rfl (feq (by decide : ¬ ((5 : Int32) = (1 : Int32)))).2 (by decide) (by decide) q) ?_
  refine Go.plain (g' := (mkF m 18 #[.val (.int (5 : Int32))] [(.int (5 : Int32))])) (fun T L X t q => XS.iloadN X.here C.hx rfl (C.d d_pick5_17) rfl q) ?_
  refine Go.plain (g' := (mkF m 19 #[.val (.int (5 : Int32))] [(.int (2 : Int32)), (.int (5 : Int32))])) (fun T L X t q => XS.iconst X.here C.hx rfl (C.d d_pick5_18) q) ?_
  refine Go.plain (g' := (mkF m 26 #[.val (.int (5 : Int32))] [])) (fun T L X t q => XS.icmpYes X.here C.hx rfl (pc0 := 19) (pc' := 26) rfl (C.d d_pick5_19) rfl (feq (by decide : ¬ ((5 : Int32) = (2 : Int32)))).2 (by decide) (by decide) q) ?_
  refine Go.plain (g' := (mkF m 27 #[.val (.int (5 : Int32))] [(.int (5 : Int32))])) (fun T L X t q => XS.iloadN X.here C.hx rfl (C.d d_pick5_26) rfl q) ?_
  refine Go.plain (g' := (mkF m 28 #[.val (.int (5 : Int32))] [(.int (3 : Int32)), (.int (5 : Int32))])) (fun T L X t q => XS.iconst X.here C.hx rfl (C.d d_pick5_27) q) ?_
  refine Go.plain (g' := (mkF m 35 #[.val (.int (5 : Int32))] [])) (fun T L X t q => XS.icmpYes X.here C.hx rfl (pc0 := 28) (pc' := 35) rfl (C.d d_pick5_28) rfl (feq (by decide : ¬ ((5 : Int32) = (3 : Int32)))).2 (by decide) (by decide) q) ?_
  refine Go.plain (g' := (mkF m 36 #[.val (.int (5 : Int32))] [(.int (5 : Int32))])) (fun T L X t q => XS.iloadN X.here C.hx rfl (C.d d_pick5_35) rfl q) ?_
  refine Go.plain (g' := (mkF m 37 #[.val (.int (5 : Int32))] [(.int (4 : Int32)), (.int (5 : Int32))])) (fun T L X t q => XS.iconst X.here C.hx rfl (C.d d_pick5_36) q) ?_
  refine Go.plain (g' := (mkF m 44 #[.val (.int (5 : Int32))] [])) (fun T L X t q => XS.icmpYes X.here C.hx rfl (pc0 := 37) (pc' := 44) rfl (C.d d_pick5_37) rfl (feq (by decide : ¬ ((5 : Int32) = (4 : Int32)))).2 (by decide) (by decide) q) ?_
  refine Go.getS C (host := "") (Or.inl (hw _ (List.mem_of_getElem? (i := 21) rfl))) Via.refl S5 d_pick5_44 (pc' := 47) rfl ?_
  exact Go.retA C rfl rfl rfl d_pick5_47 (by decide) (by decide) ⟨rfl, rfl⟩
theorem pn_law : plainName "com/example/accessio/accessio/LinkTypeToAddressPinLaw" = true := by first | (simp [plainName, overriddenIn]; done) | decide +kernel
theorem ef_law (m : MethodId) (x0 : Int32)  : entryFrame m #[(.int x0)] maxLocals = mkF m 0 #[.val (.int x0), .unset, .unset, .unset] [] := by first | (simp [entryFrame, mkF, argsToLocals, Value.category, maxLocals]; done) | rfl
set_option maxRecDepth 65536 in
set_option maxHeartbeats 40000000 in
theorem P_law (l : Launch) (Z : State) (a0 : Array Value) (hw : ∀ d ∈ tables_1, d.before a0 Z = true) (p1 : Int32) (c0 c1 c2 c3 c4 c5 r0 r1 r2 r3 r4 : Addr) (h0 : Heap) (S0 : Sta Z Z.heap "com/example/accessio/accessio/LinkType" "HAS_CHAPTER" "Lcom/example/accessio/accessio/LinkType;" (.ref c0)) (S1 : Sta Z Z.heap "com/example/accessio/accessio/LinkType" "HAS_ARTICLE" "Lcom/example/accessio/accessio/LinkType;" (.ref c1)) (S2 : Sta Z Z.heap "com/example/accessio/accessio/LinkType" "OTHER_LANGUAGE" "Lcom/example/accessio/accessio/LinkType;" (.ref c2)) (S3 : Sta Z Z.heap "com/example/accessio/accessio/LinkType" "REPLACES" "Lcom/example/accessio/accessio/LinkType;" (.ref c3)) (S4 : Sta Z Z.heap "com/example/accessio/accessio/LinkType" "RELATED_PUBLICATION" "Lcom/example/accessio/accessio/LinkType;" (.ref c4)) (S5 : Sta Z Z.heap "com/example/accessio/accessio/LinkType" "RELATED_WEBSITE" "Lcom/example/accessio/accessio/LinkType;" (.ref c5)) (A0 : Exa Z h0 c0 "com/example/accessio/accessio/LinkType") (A1 : Exa Z h0 c1 "com/example/accessio/accessio/LinkType") (A2 : Exa Z h0 c2 "com/example/accessio/accessio/LinkType") (A3 : Exa Z h0 c3 "com/example/accessio/accessio/LinkType") (A4 : Exa Z h0 c4 "com/example/accessio/accessio/LinkType") (A5 : Exa Z h0 c5 "com/example/accessio/accessio/LinkType") (F0 : Fld Z h0 c0 "com/example/accessio/accessio/LinkType" "reverse" "Ljava/lang/String;" (.ref r0)) (F1 : Fld Z h0 c1 "com/example/accessio/accessio/LinkType" "reverse" "Ljava/lang/String;" (.ref r1)) (F2 : Fld Z h0 c2 "com/example/accessio/accessio/LinkType" "reverse" "Ljava/lang/String;" (.ref r2)) (F3 : Fld Z h0 c3 "com/example/accessio/accessio/LinkType" "reverse" "Ljava/lang/String;" (.ref r3)) (F4 : Fld Z h0 c4 "com/example/accessio/accessio/LinkType" "reverse" "Ljava/lang/String;" (.ref r4)) (F5 : Fld Z h0 c5 "com/example/accessio/accessio/LinkType" "reverse" "Ljava/lang/String;" .null) :
    Pays l Z x code maxLocals ret room_1 #[(.int p1)] h0 (fun v h => v = some (.int (1 : Int32))) := by
  refine pays_of_go (plainFor_of_name pn_law) (fun m => ef_law m p1) ?_
  intro p e s m below meth c C0
  have C : Cx p s m meth c code 4 (some .boolean) "law" "com/example/accessio/accessio/LinkTypeToAddressPinLaw" Z := C0
  show Go p l e room_1 s m #[(.int p1)] below meth c Z (fun v h => v = some (.int (1 : Int32))) h0 0 0 (mkF m 0 #[.val (.int p1), .unset, .unset, .unset] [])
  refine Go.plain (g' := (mkF m 1 #[.val (.int p1), .unset, .unset, .unset] [(.int p1)])) (fun T L X t q => XS.iloadN X.here C.hx rfl (C.d at_0) rfl q) ?_
  refine Go.ldcI C (hw _ (List.mem_of_getElem? (i := 0) rfl)) at_1 (pc' := 3) rfl ?_
  refine Go.plain (g' := (mkF m 4 #[.val (.int p1), .unset, .unset, .unset] [(.int (p1 &&& (2147483647 : Int32)))])) (fun T L X t q => XS.iand X.here C.hx rfl (C.d at_3) rfl q) ?_
  refine Go.plain (g' := (mkF m 6 #[.val (.int p1), .unset, .unset, .unset] [(.int (6 : Int32)), (.int (p1 &&& (2147483647 : Int32)))])) (fun T L X t q => XS.bipush X.here C.hx rfl (C.d at_4) q) ?_
  refine Go.irem C at_6 (by decide) (pc' := 7) rfl ?_
  have hk6 := mod6 p1
  generalize ((p1 &&& (2147483647 : Int32)) % (6 : Int32)) = kk at hk6 ⊢
  rcases hk6 with rfl | rfl | rfl | rfl | rfl | rfl
  · refine Go.plain (g' := (mkF m 8 #[.val (.int p1), .val (.int (0 : Int32)), .unset, .unset] [])) (fun T L X t q => XS.istoreN X.here C.hx rfl (C.d at_7) rfl (l' := #[.val (.int p1), .val (.int (0 : Int32)), .unset, .unset]) rfl q) ?_
    refine Go.plain (g' := (mkF m 9 #[.val (.int p1), .val (.int (0 : Int32)), .unset, .unset] [(.int (0 : Int32))])) (fun T L X t q => XS.iloadN X.here C.hx rfl (C.d at_8) rfl q) ?_
    refine Go.static C (P_pick0 l Z a0 hw c0 h0 S0) (hw _ (List.mem_of_getElem? (i := 1) rfl)) (hw _ (List.mem_of_getElem? (i := 2) rfl)) (hw _ (List.mem_of_getElem? (i := 3) rfl)) (hw _ (List.mem_of_getElem? (i := 4) rfl)) (by decide) pd_0 (argsL := [(.int (0 : Int32))]) (rest := []) rfl rfl at_9 (pc' := 12) rfl rfl rfl (W := 0) (Nat.le_of_eq rfl) (by decide) (by decide) (k' := 0) (n' := 0) rfl rfl (by decide) (by decide) ?_
    rintro _ _ ⟨rfl, rfl⟩
    show Go p l e room_1 s m #[(.int p1)] below meth c Z (fun v h => v = some (.int (1 : Int32))) h0 0 0 (mkF m 12 #[.val (.int p1), .val (.int (0 : Int32)), .unset, .unset] [(.ref c0)])
    refine Go.plain (g' := (mkF m 13 #[.val (.int p1), .val (.int (0 : Int32)), .val (.ref c0), .unset] [])) (fun T L X t q => XS.astoreN X.here C.hx rfl (C.d at_12) rfl rfl (l' := #[.val (.int p1), .val (.int (0 : Int32)), .val (.ref c0), .unset]) rfl q) ?_
    refine Go.plain (g' := (mkF m 14 #[.val (.int p1), .val (.int (0 : Int32)), .val (.ref c0), .unset] [(.int (0 : Int32))])) (fun T L X t q => XS.iloadN X.here C.hx rfl (C.d at_13) rfl q) ?_
    refine Go.plain (g' := (mkF m 15 #[.val (.int p1), .val (.int (0 : Int32)), .val (.ref c0), .unset] [(.int (5 : Int32)), (.int (0 : Int32))])) (fun T L X t q => XS.iconst X.here C.hx rfl (C.d at_14) q) ?_
    refine Go.plain (g' := (mkF m 22 #[.val (.int p1), .val (.int (0 : Int32)), .val (.ref c0), .unset] [])) (fun T L X t q => XS.icmpYes X.here C.hx rfl (pc0 := 15) (pc' := 22) rfl (C.d at_15) rfl (feq (by decide : ¬ ((0 : Int32) = (5 : Int32)))).2 (by decide) (by decide) q) ?_
    refine Go.plain (g' := (mkF m 23 #[.val (.int p1), .val (.int (0 : Int32)), .val (.ref c0), .unset] [(.int (0 : Int32))])) (fun T L X t q => XS.iconst X.here C.hx rfl (C.d at_22) q) ?_
    refine Go.plain (g' := (mkF m 24 #[.val (.int p1), .val (.int (0 : Int32)), .val (.ref c0), .val (.int (0 : Int32))] [])) (fun T L X t q => XS.istoreN X.here C.hx rfl (C.d at_23) rfl (l' := #[.val (.int p1), .val (.int (0 : Int32)), .val (.ref c0), .val (.int (0 : Int32))]) rfl q) ?_
    refine Go.plain (g' := (mkF m 25 #[.val (.int p1), .val (.int (0 : Int32)), .val (.ref c0), .val (.int (0 : Int32))] [(.ref c0)])) (fun T L X t q => XS.aloadN X.here C.hx rfl (C.d at_24) rfl rfl q) ?_
    refine Go.virt C (a := c0) (P_toR l Z a0 hw c0 r0 h0 F0) A0 (hw _ (List.mem_of_getElem? (i := 8) rfl)) (hw _ (List.mem_of_getElem? (i := 9) rfl)) (hw _ (List.mem_of_getElem? (i := 11) rfl)) (hw _ (List.mem_of_getElem? (i := 10) rfl)) (hw _ (List.mem_of_getElem? (i := 6) rfl)) (hw _ (List.mem_of_getElem? (i := 12) rfl)) (by decide) pd_1 (argsL := []) (rest := []) rfl rfl at_25 (pc' := 28) rfl rfl rfl (W := 0) (Nat.le_of_eq rfl) (by decide) (by decide) (k' := 0) (n' := 0) rfl rfl (by decide) (by decide) ?_
    rintro _ _ ⟨rfl, rfl⟩
    show Go p l e room_1 s m #[(.int p1)] below meth c Z (fun v h => v = some (.int (1 : Int32))) h0 0 0 (mkF m 28 #[.val (.int p1), .val (.int (0 : Int32)), .val (.ref c0), .val (.int (0 : Int32))] [(.int (0 : Int32))])
    refine Go.plain (g' := (mkF m 29 #[.val (.int p1), .val (.int (0 : Int32)), .val (.ref c0), .val (.int (0 : Int32))] [(.int (0 : Int32)), (.int (0 : Int32))])) (fun T L X t q => XS.iloadN X.here C.hx rfl (C.d at_28) rfl q) ?_
    refine Go.plain (g' := (mkF m 32 #[.val (.int p1), .val (.int (0 : Int32)), .val (.ref c0), .val (.int (0 : Int32))] [])) (fun T L X t q => XS.icmpNo X.here C.hx rfl (C.d at_29) rfl (teq (rfl : (0 : Int32) = (0 : Int32))).2 q) ?_
    refine Go.plain (g' := (mkF m 33 #[.val (.int p1), .val (.int (0 : Int32)), .val (.ref c0), .val (.int (0 : Int32))] [(.int (1 : Int32))])) (fun T L X t q => XS.iconst X.here C.hx rfl (C.d at_32) q) ?_
    refine Go.plain (g' := (mkF m 37 #[.val (.int p1), .val (.int (0 : Int32)), .val (.ref c0), .val (.int (0 : Int32))] [(.int (1 : Int32))])) (fun T L X t q => XS.goto X.here C.hx rfl (pc0 := 33) (pc' := 37) rfl (C.d at_33) (by decide) (by decide) q) ?_
    exact Go.retN C (by simp) at_37 (by decide) (by decide) rfl
  · refine Go.plain (g' := (mkF m 8 #[.val (.int p1), .val (.int (1 : Int32)), .unset, .unset] [])) (fun T L X t q => XS.istoreN X.here C.hx rfl (C.d at_7) rfl (l' := #[.val (.int p1), .val (.int (1 : Int32)), .unset, .unset]) rfl q) ?_
    refine Go.plain (g' := (mkF m 9 #[.val (.int p1), .val (.int (1 : Int32)), .unset, .unset] [(.int (1 : Int32))])) (fun T L X t q => XS.iloadN X.here C.hx rfl (C.d at_8) rfl q) ?_
    refine Go.static C (P_pick1 l Z a0 hw c1 h0 S1) (hw _ (List.mem_of_getElem? (i := 1) rfl)) (hw _ (List.mem_of_getElem? (i := 2) rfl)) (hw _ (List.mem_of_getElem? (i := 3) rfl)) (hw _ (List.mem_of_getElem? (i := 4) rfl)) (by decide) pd_0 (argsL := [(.int (1 : Int32))]) (rest := []) rfl rfl at_9 (pc' := 12) rfl rfl rfl (W := 0) (Nat.le_of_eq rfl) (by decide) (by decide) (k' := 0) (n' := 0) rfl rfl (by decide) (by decide) ?_
    rintro _ _ ⟨rfl, rfl⟩
    show Go p l e room_1 s m #[(.int p1)] below meth c Z (fun v h => v = some (.int (1 : Int32))) h0 0 0 (mkF m 12 #[.val (.int p1), .val (.int (1 : Int32)), .unset, .unset] [(.ref c1)])
    refine Go.plain (g' := (mkF m 13 #[.val (.int p1), .val (.int (1 : Int32)), .val (.ref c1), .unset] [])) (fun T L X t q => XS.astoreN X.here C.hx rfl (C.d at_12) rfl rfl (l' := #[.val (.int p1), .val (.int (1 : Int32)), .val (.ref c1), .unset]) rfl q) ?_
    refine Go.plain (g' := (mkF m 14 #[.val (.int p1), .val (.int (1 : Int32)), .val (.ref c1), .unset] [(.int (1 : Int32))])) (fun T L X t q => XS.iloadN X.here C.hx rfl (C.d at_13) rfl q) ?_
    refine Go.plain (g' := (mkF m 15 #[.val (.int p1), .val (.int (1 : Int32)), .val (.ref c1), .unset] [(.int (5 : Int32)), (.int (1 : Int32))])) (fun T L X t q => XS.iconst X.here C.hx rfl (C.d at_14) q) ?_
    refine Go.plain (g' := (mkF m 22 #[.val (.int p1), .val (.int (1 : Int32)), .val (.ref c1), .unset] [])) (fun T L X t q => XS.icmpYes X.here C.hx rfl (pc0 := 15) (pc' := 22) rfl (C.d at_15) rfl (feq (by decide : ¬ ((1 : Int32) = (5 : Int32)))).2 (by decide) (by decide) q) ?_
    refine Go.plain (g' := (mkF m 23 #[.val (.int p1), .val (.int (1 : Int32)), .val (.ref c1), .unset] [(.int (0 : Int32))])) (fun T L X t q => XS.iconst X.here C.hx rfl (C.d at_22) q) ?_
    refine Go.plain (g' := (mkF m 24 #[.val (.int p1), .val (.int (1 : Int32)), .val (.ref c1), .val (.int (0 : Int32))] [])) (fun T L X t q => XS.istoreN X.here C.hx rfl (C.d at_23) rfl (l' := #[.val (.int p1), .val (.int (1 : Int32)), .val (.ref c1), .val (.int (0 : Int32))]) rfl q) ?_
    refine Go.plain (g' := (mkF m 25 #[.val (.int p1), .val (.int (1 : Int32)), .val (.ref c1), .val (.int (0 : Int32))] [(.ref c1)])) (fun T L X t q => XS.aloadN X.here C.hx rfl (C.d at_24) rfl rfl q) ?_
    refine Go.virt C (a := c1) (P_toR l Z a0 hw c1 r1 h0 F1) A1 (hw _ (List.mem_of_getElem? (i := 8) rfl)) (hw _ (List.mem_of_getElem? (i := 9) rfl)) (hw _ (List.mem_of_getElem? (i := 11) rfl)) (hw _ (List.mem_of_getElem? (i := 10) rfl)) (hw _ (List.mem_of_getElem? (i := 6) rfl)) (hw _ (List.mem_of_getElem? (i := 12) rfl)) (by decide) pd_1 (argsL := []) (rest := []) rfl rfl at_25 (pc' := 28) rfl rfl rfl (W := 0) (Nat.le_of_eq rfl) (by decide) (by decide) (k' := 0) (n' := 0) rfl rfl (by decide) (by decide) ?_
    rintro _ _ ⟨rfl, rfl⟩
    show Go p l e room_1 s m #[(.int p1)] below meth c Z (fun v h => v = some (.int (1 : Int32))) h0 0 0 (mkF m 28 #[.val (.int p1), .val (.int (1 : Int32)), .val (.ref c1), .val (.int (0 : Int32))] [(.int (0 : Int32))])
    refine Go.plain (g' := (mkF m 29 #[.val (.int p1), .val (.int (1 : Int32)), .val (.ref c1), .val (.int (0 : Int32))] [(.int (0 : Int32)), (.int (0 : Int32))])) (fun T L X t q => XS.iloadN X.here C.hx rfl (C.d at_28) rfl q) ?_
    refine Go.plain (g' := (mkF m 32 #[.val (.int p1), .val (.int (1 : Int32)), .val (.ref c1), .val (.int (0 : Int32))] [])) (fun T L X t q => XS.icmpNo X.here C.hx rfl (C.d at_29) rfl (teq (rfl : (0 : Int32) = (0 : Int32))).2 q) ?_
    refine Go.plain (g' := (mkF m 33 #[.val (.int p1), .val (.int (1 : Int32)), .val (.ref c1), .val (.int (0 : Int32))] [(.int (1 : Int32))])) (fun T L X t q => XS.iconst X.here C.hx rfl (C.d at_32) q) ?_
    refine Go.plain (g' := (mkF m 37 #[.val (.int p1), .val (.int (1 : Int32)), .val (.ref c1), .val (.int (0 : Int32))] [(.int (1 : Int32))])) (fun T L X t q => XS.goto X.here C.hx rfl (pc0 := 33) (pc' := 37) rfl (C.d at_33) (by decide) (by decide) q) ?_
    exact Go.retN C (by simp) at_37 (by decide) (by decide) rfl
  · refine Go.plain (g' := (mkF m 8 #[.val (.int p1), .val (.int (2 : Int32)), .unset, .unset] [])) (fun T L X t q => XS.istoreN X.here C.hx rfl (C.d at_7) rfl (l' := #[.val (.int p1), .val (.int (2 : Int32)), .unset, .unset]) rfl q) ?_
    refine Go.plain (g' := (mkF m 9 #[.val (.int p1), .val (.int (2 : Int32)), .unset, .unset] [(.int (2 : Int32))])) (fun T L X t q => XS.iloadN X.here C.hx rfl (C.d at_8) rfl q) ?_
    refine Go.static C (P_pick2 l Z a0 hw c2 h0 S2) (hw _ (List.mem_of_getElem? (i := 1) rfl)) (hw _ (List.mem_of_getElem? (i := 2) rfl)) (hw _ (List.mem_of_getElem? (i := 3) rfl)) (hw _ (List.mem_of_getElem? (i := 4) rfl)) (by decide) pd_0 (argsL := [(.int (2 : Int32))]) (rest := []) rfl rfl at_9 (pc' := 12) rfl rfl rfl (W := 0) (Nat.le_of_eq rfl) (by decide) (by decide) (k' := 0) (n' := 0) rfl rfl (by decide) (by decide) ?_
    rintro _ _ ⟨rfl, rfl⟩
    show Go p l e room_1 s m #[(.int p1)] below meth c Z (fun v h => v = some (.int (1 : Int32))) h0 0 0 (mkF m 12 #[.val (.int p1), .val (.int (2 : Int32)), .unset, .unset] [(.ref c2)])
    refine Go.plain (g' := (mkF m 13 #[.val (.int p1), .val (.int (2 : Int32)), .val (.ref c2), .unset] [])) (fun T L X t q => XS.astoreN X.here C.hx rfl (C.d at_12) rfl rfl (l' := #[.val (.int p1), .val (.int (2 : Int32)), .val (.ref c2), .unset]) rfl q) ?_
    refine Go.plain (g' := (mkF m 14 #[.val (.int p1), .val (.int (2 : Int32)), .val (.ref c2), .unset] [(.int (2 : Int32))])) (fun T L X t q => XS.iloadN X.here C.hx rfl (C.d at_13) rfl q) ?_
    refine Go.plain (g' := (mkF m 15 #[.val (.int p1), .val (.int (2 : Int32)), .val (.ref c2), .unset] [(.int (5 : Int32)), (.int (2 : Int32))])) (fun T L X t q => XS.iconst X.here C.hx rfl (C.d at_14) q) ?_
    refine Go.plain (g' := (mkF m 22 #[.val (.int p1), .val (.int (2 : Int32)), .val (.ref c2), .unset] [])) (fun T L X t q => XS.icmpYes X.here C.hx rfl (pc0 := 15) (pc' := 22) rfl (C.d at_15) rfl (feq (by decide : ¬ ((2 : Int32) = (5 : Int32)))).2 (by decide) (by decide) q) ?_
    refine Go.plain (g' := (mkF m 23 #[.val (.int p1), .val (.int (2 : Int32)), .val (.ref c2), .unset] [(.int (0 : Int32))])) (fun T L X t q => XS.iconst X.here C.hx rfl (C.d at_22) q) ?_
    refine Go.plain (g' := (mkF m 24 #[.val (.int p1), .val (.int (2 : Int32)), .val (.ref c2), .val (.int (0 : Int32))] [])) (fun T L X t q => XS.istoreN X.here C.hx rfl (C.d at_23) rfl (l' := #[.val (.int p1), .val (.int (2 : Int32)), .val (.ref c2), .val (.int (0 : Int32))]) rfl q) ?_
    refine Go.plain (g' := (mkF m 25 #[.val (.int p1), .val (.int (2 : Int32)), .val (.ref c2), .val (.int (0 : Int32))] [(.ref c2)])) (fun T L X t q => XS.aloadN X.here C.hx rfl (C.d at_24) rfl rfl q) ?_
    refine Go.virt C (a := c2) (P_toR l Z a0 hw c2 r2 h0 F2) A2 (hw _ (List.mem_of_getElem? (i := 8) rfl)) (hw _ (List.mem_of_getElem? (i := 9) rfl)) (hw _ (List.mem_of_getElem? (i := 11) rfl)) (hw _ (List.mem_of_getElem? (i := 10) rfl)) (hw _ (List.mem_of_getElem? (i := 6) rfl)) (hw _ (List.mem_of_getElem? (i := 12) rfl)) (by decide) pd_1 (argsL := []) (rest := []) rfl rfl at_25 (pc' := 28) rfl rfl rfl (W := 0) (Nat.le_of_eq rfl) (by decide) (by decide) (k' := 0) (n' := 0) rfl rfl (by decide) (by decide) ?_
    rintro _ _ ⟨rfl, rfl⟩
    show Go p l e room_1 s m #[(.int p1)] below meth c Z (fun v h => v = some (.int (1 : Int32))) h0 0 0 (mkF m 28 #[.val (.int p1), .val (.int (2 : Int32)), .val (.ref c2), .val (.int (0 : Int32))] [(.int (0 : Int32))])
    refine Go.plain (g' := (mkF m 29 #[.val (.int p1), .val (.int (2 : Int32)), .val (.ref c2), .val (.int (0 : Int32))] [(.int (0 : Int32)), (.int (0 : Int32))])) (fun T L X t q => XS.iloadN X.here C.hx rfl (C.d at_28) rfl q) ?_
    refine Go.plain (g' := (mkF m 32 #[.val (.int p1), .val (.int (2 : Int32)), .val (.ref c2), .val (.int (0 : Int32))] [])) (fun T L X t q => XS.icmpNo X.here C.hx rfl (C.d at_29) rfl (teq (rfl : (0 : Int32) = (0 : Int32))).2 q) ?_
    refine Go.plain (g' := (mkF m 33 #[.val (.int p1), .val (.int (2 : Int32)), .val (.ref c2), .val (.int (0 : Int32))] [(.int (1 : Int32))])) (fun T L X t q => XS.iconst X.here C.hx rfl (C.d at_32) q) ?_
    refine Go.plain (g' := (mkF m 37 #[.val (.int p1), .val (.int (2 : Int32)), .val (.ref c2), .val (.int (0 : Int32))] [(.int (1 : Int32))])) (fun T L X t q => XS.goto X.here C.hx rfl (pc0 := 33) (pc' := 37) rfl (C.d at_33) (by decide) (by decide) q) ?_
    exact Go.retN C (by simp) at_37 (by decide) (by decide) rfl
  · refine Go.plain (g' := (mkF m 8 #[.val (.int p1), .val (.int (3 : Int32)), .unset, .unset] [])) (fun T L X t q => XS.istoreN X.here C.hx rfl (C.d at_7) rfl (l' := #[.val (.int p1), .val (.int (3 : Int32)), .unset, .unset]) rfl q) ?_
    refine Go.plain (g' := (mkF m 9 #[.val (.int p1), .val (.int (3 : Int32)), .unset, .unset] [(.int (3 : Int32))])) (fun T L X t q => XS.iloadN X.here C.hx rfl (C.d at_8) rfl q) ?_
    refine Go.static C (P_pick3 l Z a0 hw c3 h0 S3) (hw _ (List.mem_of_getElem? (i := 1) rfl)) (hw _ (List.mem_of_getElem? (i := 2) rfl)) (hw _ (List.mem_of_getElem? (i := 3) rfl)) (hw _ (List.mem_of_getElem? (i := 4) rfl)) (by decide) pd_0 (argsL := [(.int (3 : Int32))]) (rest := []) rfl rfl at_9 (pc' := 12) rfl rfl rfl (W := 0) (Nat.le_of_eq rfl) (by decide) (by decide) (k' := 0) (n' := 0) rfl rfl (by decide) (by decide) ?_
    rintro _ _ ⟨rfl, rfl⟩
    show Go p l e room_1 s m #[(.int p1)] below meth c Z (fun v h => v = some (.int (1 : Int32))) h0 0 0 (mkF m 12 #[.val (.int p1), .val (.int (3 : Int32)), .unset, .unset] [(.ref c3)])
    refine Go.plain (g' := (mkF m 13 #[.val (.int p1), .val (.int (3 : Int32)), .val (.ref c3), .unset] [])) (fun T L X t q => XS.astoreN X.here C.hx rfl (C.d at_12) rfl rfl (l' := #[.val (.int p1), .val (.int (3 : Int32)), .val (.ref c3), .unset]) rfl q) ?_
    refine Go.plain (g' := (mkF m 14 #[.val (.int p1), .val (.int (3 : Int32)), .val (.ref c3), .unset] [(.int (3 : Int32))])) (fun T L X t q => XS.iloadN X.here C.hx rfl (C.d at_13) rfl q) ?_
    refine Go.plain (g' := (mkF m 15 #[.val (.int p1), .val (.int (3 : Int32)), .val (.ref c3), .unset] [(.int (5 : Int32)), (.int (3 : Int32))])) (fun T L X t q => XS.iconst X.here C.hx rfl (C.d at_14) q) ?_
    refine Go.plain (g' := (mkF m 22 #[.val (.int p1), .val (.int (3 : Int32)), .val (.ref c3), .unset] [])) (fun T L X t q => XS.icmpYes X.here C.hx rfl (pc0 := 15) (pc' := 22) rfl (C.d at_15) rfl (feq (by decide : ¬ ((3 : Int32) = (5 : Int32)))).2 (by decide) (by decide) q) ?_
    refine Go.plain (g' := (mkF m 23 #[.val (.int p1), .val (.int (3 : Int32)), .val (.ref c3), .unset] [(.int (0 : Int32))])) (fun T L X t q => XS.iconst X.here C.hx rfl (C.d at_22) q) ?_
    refine Go.plain (g' := (mkF m 24 #[.val (.int p1), .val (.int (3 : Int32)), .val (.ref c3), .val (.int (0 : Int32))] [])) (fun T L X t q => XS.istoreN X.here C.hx rfl (C.d at_23) rfl (l' := #[.val (.int p1), .val (.int (3 : Int32)), .val (.ref c3), .val (.int (0 : Int32))]) rfl q) ?_
    refine Go.plain (g' := (mkF m 25 #[.val (.int p1), .val (.int (3 : Int32)), .val (.ref c3), .val (.int (0 : Int32))] [(.ref c3)])) (fun T L X t q => XS.aloadN X.here C.hx rfl (C.d at_24) rfl rfl q) ?_
    refine Go.virt C (a := c3) (P_toR l Z a0 hw c3 r3 h0 F3) A3 (hw _ (List.mem_of_getElem? (i := 8) rfl)) (hw _ (List.mem_of_getElem? (i := 9) rfl)) (hw _ (List.mem_of_getElem? (i := 11) rfl)) (hw _ (List.mem_of_getElem? (i := 10) rfl)) (hw _ (List.mem_of_getElem? (i := 6) rfl)) (hw _ (List.mem_of_getElem? (i := 12) rfl)) (by decide) pd_1 (argsL := []) (rest := []) rfl rfl at_25 (pc' := 28) rfl rfl rfl (W := 0) (Nat.le_of_eq rfl) (by decide) (by decide) (k' := 0) (n' := 0) rfl rfl (by decide) (by decide) ?_
    rintro _ _ ⟨rfl, rfl⟩
    show Go p l e room_1 s m #[(.int p1)] below meth c Z (fun v h => v = some (.int (1 : Int32))) h0 0 0 (mkF m 28 #[.val (.int p1), .val (.int (3 : Int32)), .val (.ref c3), .val (.int (0 : Int32))] [(.int (0 : Int32))])
    refine Go.plain (g' := (mkF m 29 #[.val (.int p1), .val (.int (3 : Int32)), .val (.ref c3), .val (.int (0 : Int32))] [(.int (0 : Int32)), (.int (0 : Int32))])) (fun T L X t q => XS.iloadN X.here C.hx rfl (C.d at_28) rfl q) ?_
    refine Go.plain (g' := (mkF m 32 #[.val (.int p1), .val (.int (3 : Int32)), .val (.ref c3), .val (.int (0 : Int32))] [])) (fun T L X t q => XS.icmpNo X.here C.hx rfl (C.d at_29) rfl (teq (rfl : (0 : Int32) = (0 : Int32))).2 q) ?_
    refine Go.plain (g' := (mkF m 33 #[.val (.int p1), .val (.int (3 : Int32)), .val (.ref c3), .val (.int (0 : Int32))] [(.int (1 : Int32))])) (fun T L X t q => XS.iconst X.here C.hx rfl (C.d at_32) q) ?_
    refine Go.plain (g' := (mkF m 37 #[.val (.int p1), .val (.int (3 : Int32)), .val (.ref c3), .val (.int (0 : Int32))] [(.int (1 : Int32))])) (fun T L X t q => XS.goto X.here C.hx rfl (pc0 := 33) (pc' := 37) rfl (C.d at_33) (by decide) (by decide) q) ?_
    exact Go.retN C (by simp) at_37 (by decide) (by decide) rfl
  · refine Go.plain (g' := (mkF m 8 #[.val (.int p1), .val (.int (4 : Int32)), .unset, .unset] [])) (fun T L X t q => XS.istoreN X.here C.hx rfl (C.d at_7) rfl (l' := #[.val (.int p1), .val (.int (4 : Int32)), .unset, .unset]) rfl q) ?_
    refine Go.plain (g' := (mkF m 9 #[.val (.int p1), .val (.int (4 : Int32)), .unset, .unset] [(.int (4 : Int32))])) (fun T L X t q => XS.iloadN X.here C.hx rfl (C.d at_8) rfl q) ?_
    refine Go.static C (P_pick4 l Z a0 hw c4 h0 S4) (hw _ (List.mem_of_getElem? (i := 1) rfl)) (hw _ (List.mem_of_getElem? (i := 2) rfl)) (hw _ (List.mem_of_getElem? (i := 3) rfl)) (hw _ (List.mem_of_getElem? (i := 4) rfl)) (by decide) pd_0 (argsL := [(.int (4 : Int32))]) (rest := []) rfl rfl at_9 (pc' := 12) rfl rfl rfl (W := 0) (Nat.le_of_eq rfl) (by decide) (by decide) (k' := 0) (n' := 0) rfl rfl (by decide) (by decide) ?_
    rintro _ _ ⟨rfl, rfl⟩
    show Go p l e room_1 s m #[(.int p1)] below meth c Z (fun v h => v = some (.int (1 : Int32))) h0 0 0 (mkF m 12 #[.val (.int p1), .val (.int (4 : Int32)), .unset, .unset] [(.ref c4)])
    refine Go.plain (g' := (mkF m 13 #[.val (.int p1), .val (.int (4 : Int32)), .val (.ref c4), .unset] [])) (fun T L X t q => XS.astoreN X.here C.hx rfl (C.d at_12) rfl rfl (l' := #[.val (.int p1), .val (.int (4 : Int32)), .val (.ref c4), .unset]) rfl q) ?_
    refine Go.plain (g' := (mkF m 14 #[.val (.int p1), .val (.int (4 : Int32)), .val (.ref c4), .unset] [(.int (4 : Int32))])) (fun T L X t q => XS.iloadN X.here C.hx rfl (C.d at_13) rfl q) ?_
    refine Go.plain (g' := (mkF m 15 #[.val (.int p1), .val (.int (4 : Int32)), .val (.ref c4), .unset] [(.int (5 : Int32)), (.int (4 : Int32))])) (fun T L X t q => XS.iconst X.here C.hx rfl (C.d at_14) q) ?_
    refine Go.plain (g' := (mkF m 22 #[.val (.int p1), .val (.int (4 : Int32)), .val (.ref c4), .unset] [])) (fun T L X t q => XS.icmpYes X.here C.hx rfl (pc0 := 15) (pc' := 22) rfl (C.d at_15) rfl (feq (by decide : ¬ ((4 : Int32) = (5 : Int32)))).2 (by decide) (by decide) q) ?_
    refine Go.plain (g' := (mkF m 23 #[.val (.int p1), .val (.int (4 : Int32)), .val (.ref c4), .unset] [(.int (0 : Int32))])) (fun T L X t q => XS.iconst X.here C.hx rfl (C.d at_22) q) ?_
    refine Go.plain (g' := (mkF m 24 #[.val (.int p1), .val (.int (4 : Int32)), .val (.ref c4), .val (.int (0 : Int32))] [])) (fun T L X t q => XS.istoreN X.here C.hx rfl (C.d at_23) rfl (l' := #[.val (.int p1), .val (.int (4 : Int32)), .val (.ref c4), .val (.int (0 : Int32))]) rfl q) ?_
    refine Go.plain (g' := (mkF m 25 #[.val (.int p1), .val (.int (4 : Int32)), .val (.ref c4), .val (.int (0 : Int32))] [(.ref c4)])) (fun T L X t q => XS.aloadN X.here C.hx rfl (C.d at_24) rfl rfl q) ?_
    refine Go.virt C (a := c4) (P_toR l Z a0 hw c4 r4 h0 F4) A4 (hw _ (List.mem_of_getElem? (i := 8) rfl)) (hw _ (List.mem_of_getElem? (i := 9) rfl)) (hw _ (List.mem_of_getElem? (i := 11) rfl)) (hw _ (List.mem_of_getElem? (i := 10) rfl)) (hw _ (List.mem_of_getElem? (i := 6) rfl)) (hw _ (List.mem_of_getElem? (i := 12) rfl)) (by decide) pd_1 (argsL := []) (rest := []) rfl rfl at_25 (pc' := 28) rfl rfl rfl (W := 0) (Nat.le_of_eq rfl) (by decide) (by decide) (k' := 0) (n' := 0) rfl rfl (by decide) (by decide) ?_
    rintro _ _ ⟨rfl, rfl⟩
    show Go p l e room_1 s m #[(.int p1)] below meth c Z (fun v h => v = some (.int (1 : Int32))) h0 0 0 (mkF m 28 #[.val (.int p1), .val (.int (4 : Int32)), .val (.ref c4), .val (.int (0 : Int32))] [(.int (0 : Int32))])
    refine Go.plain (g' := (mkF m 29 #[.val (.int p1), .val (.int (4 : Int32)), .val (.ref c4), .val (.int (0 : Int32))] [(.int (0 : Int32)), (.int (0 : Int32))])) (fun T L X t q => XS.iloadN X.here C.hx rfl (C.d at_28) rfl q) ?_
    refine Go.plain (g' := (mkF m 32 #[.val (.int p1), .val (.int (4 : Int32)), .val (.ref c4), .val (.int (0 : Int32))] [])) (fun T L X t q => XS.icmpNo X.here C.hx rfl (C.d at_29) rfl (teq (rfl : (0 : Int32) = (0 : Int32))).2 q) ?_
    refine Go.plain (g' := (mkF m 33 #[.val (.int p1), .val (.int (4 : Int32)), .val (.ref c4), .val (.int (0 : Int32))] [(.int (1 : Int32))])) (fun T L X t q => XS.iconst X.here C.hx rfl (C.d at_32) q) ?_
    refine Go.plain (g' := (mkF m 37 #[.val (.int p1), .val (.int (4 : Int32)), .val (.ref c4), .val (.int (0 : Int32))] [(.int (1 : Int32))])) (fun T L X t q => XS.goto X.here C.hx rfl (pc0 := 33) (pc' := 37) rfl (C.d at_33) (by decide) (by decide) q) ?_
    exact Go.retN C (by simp) at_37 (by decide) (by decide) rfl
  · refine Go.plain (g' := (mkF m 8 #[.val (.int p1), .val (.int (5 : Int32)), .unset, .unset] [])) (fun T L X t q => XS.istoreN X.here C.hx rfl (C.d at_7) rfl (l' := #[.val (.int p1), .val (.int (5 : Int32)), .unset, .unset]) rfl q) ?_
    refine Go.plain (g' := (mkF m 9 #[.val (.int p1), .val (.int (5 : Int32)), .unset, .unset] [(.int (5 : Int32))])) (fun T L X t q => XS.iloadN X.here C.hx rfl (C.d at_8) rfl q) ?_
    refine Go.static C (P_pick5 l Z a0 hw c5 h0 S5) (hw _ (List.mem_of_getElem? (i := 1) rfl)) (hw _ (List.mem_of_getElem? (i := 2) rfl)) (hw _ (List.mem_of_getElem? (i := 3) rfl)) (hw _ (List.mem_of_getElem? (i := 4) rfl)) (by decide) pd_0 (argsL := [(.int (5 : Int32))]) (rest := []) rfl rfl at_9 (pc' := 12) rfl rfl rfl (W := 0) (Nat.le_of_eq rfl) (by decide) (by decide) (k' := 0) (n' := 0) rfl rfl (by decide) (by decide) ?_
    rintro _ _ ⟨rfl, rfl⟩
    show Go p l e room_1 s m #[(.int p1)] below meth c Z (fun v h => v = some (.int (1 : Int32))) h0 0 0 (mkF m 12 #[.val (.int p1), .val (.int (5 : Int32)), .unset, .unset] [(.ref c5)])
    refine Go.plain (g' := (mkF m 13 #[.val (.int p1), .val (.int (5 : Int32)), .val (.ref c5), .unset] [])) (fun T L X t q => XS.astoreN X.here C.hx rfl (C.d at_12) rfl rfl (l' := #[.val (.int p1), .val (.int (5 : Int32)), .val (.ref c5), .unset]) rfl q) ?_
    refine Go.plain (g' := (mkF m 14 #[.val (.int p1), .val (.int (5 : Int32)), .val (.ref c5), .unset] [(.int (5 : Int32))])) (fun T L X t q => XS.iloadN X.here C.hx rfl (C.d at_13) rfl q) ?_
    refine Go.plain (g' := (mkF m 15 #[.val (.int p1), .val (.int (5 : Int32)), .val (.ref c5), .unset] [(.int (5 : Int32)), (.int (5 : Int32))])) (fun T L X t q => XS.iconst X.here C.hx rfl (C.d at_14) q) ?_
    refine Go.plain (g' := (mkF m 18 #[.val (.int p1), .val (.int (5 : Int32)), .val (.ref c5), .unset] [])) (fun T L X t q => XS.icmpNo X.here C.hx rfl (C.d at_15) rfl (teq (rfl : (5 : Int32) = (5 : Int32))).2 q) ?_
    refine Go.plain (g' := (mkF m 19 #[.val (.int p1), .val (.int (5 : Int32)), .val (.ref c5), .unset] [(.int (1 : Int32))])) (fun T L X t q => XS.iconst X.here C.hx rfl (C.d at_18) q) ?_
    refine Go.plain (g' := (mkF m 23 #[.val (.int p1), .val (.int (5 : Int32)), .val (.ref c5), .unset] [(.int (1 : Int32))])) (fun T L X t q => XS.goto X.here C.hx rfl (pc0 := 19) (pc' := 23) rfl (C.d at_19) (by decide) (by decide) q) ?_
    refine Go.plain (g' := (mkF m 24 #[.val (.int p1), .val (.int (5 : Int32)), .val (.ref c5), .val (.int (1 : Int32))] [])) (fun T L X t q => XS.istoreN X.here C.hx rfl (C.d at_23) rfl (l' := #[.val (.int p1), .val (.int (5 : Int32)), .val (.ref c5), .val (.int (1 : Int32))]) rfl q) ?_
    refine Go.plain (g' := (mkF m 25 #[.val (.int p1), .val (.int (5 : Int32)), .val (.ref c5), .val (.int (1 : Int32))] [(.ref c5)])) (fun T L X t q => XS.aloadN X.here C.hx rfl (C.d at_24) rfl rfl q) ?_
    refine Go.virt C (a := c5) (P_toN l Z a0 hw c5 h0 F5) A5 (hw _ (List.mem_of_getElem? (i := 8) rfl)) (hw _ (List.mem_of_getElem? (i := 9) rfl)) (hw _ (List.mem_of_getElem? (i := 11) rfl)) (hw _ (List.mem_of_getElem? (i := 10) rfl)) (hw _ (List.mem_of_getElem? (i := 6) rfl)) (hw _ (List.mem_of_getElem? (i := 12) rfl)) (by decide) pd_1 (argsL := []) (rest := []) rfl rfl at_25 (pc' := 28) rfl rfl rfl (W := 0) (Nat.le_of_eq rfl) (by decide) (by decide) (k' := 0) (n' := 0) rfl rfl (by decide) (by decide) ?_
    rintro _ _ ⟨rfl, rfl⟩
    show Go p l e room_1 s m #[(.int p1)] below meth c Z (fun v h => v = some (.int (1 : Int32))) h0 0 0 (mkF m 28 #[.val (.int p1), .val (.int (5 : Int32)), .val (.ref c5), .val (.int (1 : Int32))] [(.int (1 : Int32))])
    refine Go.plain (g' := (mkF m 29 #[.val (.int p1), .val (.int (5 : Int32)), .val (.ref c5), .val (.int (1 : Int32))] [(.int (1 : Int32)), (.int (1 : Int32))])) (fun T L X t q => XS.iloadN X.here C.hx rfl (C.d at_28) rfl q) ?_
    refine Go.plain (g' := (mkF m 32 #[.val (.int p1), .val (.int (5 : Int32)), .val (.ref c5), .val (.int (1 : Int32))] [])) (fun T L X t q => XS.icmpNo X.here C.hx rfl (C.d at_29) rfl (teq (rfl : (1 : Int32) = (1 : Int32))).2 q) ?_
    refine Go.plain (g' := (mkF m 33 #[.val (.int p1), .val (.int (5 : Int32)), .val (.ref c5), .val (.int (1 : Int32))] [(.int (1 : Int32))])) (fun T L X t q => XS.iconst X.here C.hx rfl (C.d at_32) q) ?_
    refine Go.plain (g' := (mkF m 37 #[.val (.int p1), .val (.int (5 : Int32)), .val (.ref c5), .val (.int (1 : Int32))] [(.int (1 : Int32))])) (fun T L X t q => XS.goto X.here C.hx rfl (pc0 := 33) (pc' := 37) rfl (C.d at_33) (by decide) (by decide) q) ?_
    exact Go.retN C (by simp) at_37 (by decide) (by decide) rfl
set_option maxRecDepth 65536 in
set_option maxHeartbeats 40000000 in
theorem comes_1 {Post : Tables → Env → Array Value → State → Outcome → State → Prop} (hpost : ∀ tb e args s v u, (limb_1_1.after args s (.returned v) u = true ∧ limb_1_2.after args s (.returned v) u = true ∧ True) → FrameEnd s (.returned v) u (Jvm.fieldLocs frame_1_writes args s ++ Jvm.arrayLocs frame_1_arrays args s ++ Jvm.staticLocs frame_1_statics s) 0 0 → Post tb e args s (.returned v) u) :
    ArmFor flags0 classFile x code maxLocals ret World_1 tables_1 room_1 Calls_1 rest_1 Pre_1 Post := by
  intro l hfl _ _ p e ha hc hk s m args below hf hA hF happ hP
  obtain ⟨hcalls, hrest, hpre⟩ := hP
  obtain ⟨-, -, -, hnamed, -, -, -, hat⟩ := (Spec.applies_iff hf).mp happ
  obtain ⟨hg, hn⟩ := and_e (Cond.before_iff.mp (show (Jvm.Cond.and given_1 narrow_1).before args s = true from hpre))
  obtain ⟨gg0, hg⟩ := and_e hg
  have gg1 := hg
  obtain ⟨w0, rfl⟩ : ∃ w0 : Value, args = #[w0] := by
    have hs : args.size = 1 := by simpa [Cond.value, given_1] using gg0
    obtain ⟨L⟩ := args
    match L, hs with
    | [w0], _ => exact ⟨w0, rfl⟩
  have hw := fun d (hd : d ∈ tables_1) => atoms_spec (ws := Jvm.Cond.code x code maxLocals ret :: tables_1) hat d (List.mem_cons_of_mem _ hd)
  obtain ⟨i0, ei0⟩ := is_v gg1
  obtain rfl : w0 = (.int i0) := Option.some.inj ei0
  have st0 : ∀ {f : String} {v : Value}, (Jvm.Term.static "com/example/accessio/accessio/LinkType" f "Lcom/example/accessio/accessio/LinkType;").eval #[.int i0] s none [] s = some v → (Jvm.Cond.laysStatic "com/example/accessio/accessio/LinkType" f "Lcom/example/accessio/accessio/LinkType;").before #[.int i0] s = true → Sta s s.heap "com/example/accessio/accessio/LinkType" f "Lcom/example/accessio/accessio/LinkType;" v := fun ev hl => Sta.start ev (Or.inr ⟨(hw _ (List.mem_of_getElem? (i := 6) rfl)), hl⟩)
  obtain ⟨x0, hn⟩ := and_e hn
  obtain ⟨y0, hn⟩ := and_e hn
  obtain ⟨c0, ev0⟩ := exa_v x0
  have A0 := Exa.start ev0 x0
  have S0 := st0 ev0 (hw _ (List.mem_of_getElem? (i := 7) rfl))
  obtain ⟨r0, fv0⟩ := exa_v y0
  have F0 := Fld.start ((fld_at ev0).symm.trans fv0)
  obtain ⟨x3, hn⟩ := and_e hn
  obtain ⟨y3, hn⟩ := and_e hn
  obtain ⟨c3, ev3⟩ := exa_v x3
  have A3 := Exa.start ev3 x3
  have S3 := st0 ev3 (hw _ (List.mem_of_getElem? (i := 16) rfl))
  obtain ⟨r3, fv3⟩ := exa_v y3
  have F3 := Fld.start ((fld_at ev3).symm.trans fv3)
  obtain ⟨x2, hn⟩ := and_e hn
  obtain ⟨y2, hn⟩ := and_e hn
  obtain ⟨c2, ev2⟩ := exa_v x2
  have A2 := Exa.start ev2 x2
  have S2 := st0 ev2 (hw _ (List.mem_of_getElem? (i := 18) rfl))
  obtain ⟨r2, fv2⟩ := exa_v y2
  have F2 := Fld.start ((fld_at ev2).symm.trans fv2)
  obtain ⟨x1, hn⟩ := and_e hn
  obtain ⟨y1, hn⟩ := and_e hn
  obtain ⟨c1, ev1⟩ := exa_v x1
  have A1 := Exa.start ev1 x1
  have S1 := st0 ev1 (hw _ (List.mem_of_getElem? (i := 20) rfl))
  obtain ⟨u1, u2, g1, g2, k1, k2⟩ := cmp_v (Or.inl y1)
  cases g2.symm.trans fv0
  have k3 : (Value.ref r0).isRef = true ∧ u1.isRef = true := k2
  have q1 : u1 = .ref r0 := gotT (eq_R g1 g2 k3.2 rfl) y1
  subst q1
  have F1 := Fld.start ((fld_at ev1).symm.trans g1)
  obtain ⟨x5, hn⟩ := and_e hn
  obtain ⟨y5, hn⟩ := and_e hn
  obtain ⟨c5, ev5⟩ := exa_v x5
  have A5 := Exa.start ev5 x5
  have S5 := st0 ev5 (hw _ (List.mem_of_getElem? (i := 22) rfl))
  have F5 := Fld.start ((fld_at ev5).symm.trans (null_v y5))
  obtain ⟨x4, hn⟩ := and_e hn
  have y4 := hn
  obtain ⟨c4, ev4⟩ := exa_v x4
  have A4 := Exa.start ev4 x4
  have S4 := st0 ev4 (hw _ (List.mem_of_getElem? (i := 24) rfl))
  obtain ⟨r4, fv4⟩ := exa_v y4
  have F4 := Fld.start ((fld_at ev4).symm.trans fv4)
  obtain ⟨n, o, h1, h2, h3, _, L, rfl, ⟨rfl, -, N⟩, hq⟩ := P_law l s _ hw i0 c0 c1 c2 c3 c4 c5 r0 r0 r2 r3 r4 s.heap S0 S1 S2 S3 S4 S5 A0 A1 A2 A3 A4 A5 F0 F1 F2 F3 F4 F5 (ext_refl _) tables_1 p e ha hc hk s m _ below hf ((Spec.applies_iff_loose hf).mp happ).1 ⟨rfl, State.Warmed39.refl s, rfl⟩ trivial
  refine ⟨n, _, h1, h2, h3, hpost _ _ _ _ _ _ ⟨Cond.after_iff.mpr rfl, Cond.after_iff.mpr (eq_i res_at (Term.int_eval (1)) rfl), trivial⟩ ⟨hq.1, hq.2.1, (hq.2.2.sift fun y hy => Or.inr (N y hy)).mono (by decide) (by decide)⟩⟩
theorem main_1_1 : Claimed_1_1 := comes_1 fun _ _ _ _ _ _ h hF => ⟨h.1, hF⟩
theorem main_1_2 : Claimed_1_2 := comes_1 fun _ _ _ _ _ _ h hF => ⟨h.2.1, hF⟩
end Jvm.Pilot.@@N@@
namespace Jvm.Pilot.@@N@@
open Jvm Jvm.ClassFile Sem Op Lib Jvm.Free Jvm.Stand Jvm.Pilot.@@N@@.Jvm.D
/-! MADE BY PROGRAM (witnessworld.py) out of the Statement's table words and the real class files: 15 classes; the members and pool entries that the words name. The judged class is class 1, her method 2. -/
namespace start1
open Jvm.ClassFile
def u (s : String) : CpInfo := .utf8 (stringToUtf16 s)
/-- a pool by its gaps: so many unusable entries, then the entry; so many at the end -/
def gap : Nat → List CpInfo → List CpInfo
  | 0, r => r
  | n + 1, r => .unusable :: gap n r
def poolList (es : List (Nat × CpInfo)) (last : Nat) : List CpInfo := es.foldr (fun e r => gap e.1 (e.2 :: r)) (gap last [])
def pool (es : List (Nat × CpInfo)) (last : Nat) : Array CpInfo := ⟨poolList es last⟩
def fileOf (pool : Array CpInfo) (this : Nat) (attrs : Array Attribute := #[]) (ms : Array MethodInfo := #[]) (fl : Nat := 33) (sup : Nat := 0) (ifs : Array Nat := #[]) (fds : Array FieldInfo := #[]) : ClassFile where
  minorVersion := 0
  majorVersion := 65
  constantPool := pool
  accessFlags := fl
  thisClass := this
  superClass := sup
  interfaces := ifs
  fields := fds
  methods := ms
  attributes := attrs
def plain (name : String) (sup : Option ClassId) : Class where
  name := name
  kind := .ordinary
  loader := none
  accessFlags := 33
  super := sup
  interfaces := #[]
  cf := none
  fields := #[]
  methods := #[]
  instanceTypes := #[]
  staticTypes := #[]
  resolved := #[]
  callSites := []
  init := .initialized
  statics := none
  mirror := none

def pool0 : Array CpInfo := pool [(5, u "<init>"), (0, u "()V"), (1, .class_ 10), (1, u "java/lang/Object")] 113

def k0m0 : Method := { name := "<init>", desc := "()V", sig := { parameters := [], returnType := none }, accessFlags := 1, code := none }
/-- java/lang/Object -/
def k0 : Class := { plain "java/lang/Object" none with
  accessFlags := 33
  interfaces := #[]
  cf := some (fileOf pool0 8 #[] #[{ accessFlags := 1, nameIndex := 5, descriptorIndex := 6, attributes := #[] }] 33 0 #[] #[])
  fields := #[]
  methods := #[k0m0]
  instanceTypes := #[]
  staticTypes := #[]
  resolved := Array.replicate 124 none
  statics := none }

def pool1 : Array CpInfo := pool [(2, .class_ 4), (1, u "java/lang/Object"), (0, u "<init>"), (0, u "()V"), (0, .fieldref 8 9), (0, .class_ 10), (0, .nameAndType 11 12), (0, u "com/example/accessio/accessio/LinkType"), (0, u "HAS_CHAPTER"), (0, u "Lcom/example/accessio/accessio/LinkType;"), (0, .fieldref 8 14), (0, .nameAndType 15 12), (0, u "HAS_ARTICLE"), (0, .fieldref 8 17), (0, .nameAndType 18 12), (0, u "OTHER_LANGUAGE"), (0, .fieldref 8 20), (0, .nameAndType 21 12), (0, u "REPLACES"), (0, .fieldref 8 23), (0, .nameAndType 24 12), (0, u "RELATED_PUBLICATION"), (0, .fieldref 8 26), (0, .nameAndType 27 12), (0, u "RELATED_WEBSITE"), (0, .integer 2147483647), (0, .methodref 30 31), (0, .class_ 32), (0, .nameAndType 33 34), (0, u "com/example/accessio/accessio/LinkTypeToAddressPinLaw"), (0, u "pick"), (0, u "(I)Lcom/example/accessio/accessio/LinkType;"), (0, .methodref 8 36), (0, .nameAndType 37 38), (0, u "toAddress"), (0, u "()Z"), (3, u "law"), (0, u "(I)Z")] 2

def k1m0 : Method := { name := "<init>", desc := "()V", sig := { parameters := [], returnType := none }, accessFlags := 2, code := none }
def k1c1 : Code := { maxStack := 2, maxLocals := 1, code := method_2_code, exceptionTable := #[], attributes := #[] }
def k1m1 : Method := { name := "pick", desc := "(I)Lcom/example/accessio/accessio/LinkType;", sig := { parameters := [.int], returnType := some (.object "com/example/accessio/accessio/LinkType") }, accessFlags := 10, code := some k1c1 }
def k1c2 : Code := { maxStack := 2, maxLocals := 4, code := code, exceptionTable := #[], attributes := #[] }
def k1m2 : Method := { name := "law", desc := "(I)Z", sig := { parameters := [.int], returnType := some .boolean }, accessFlags := 9, code := some k1c2 }
/-- com/example/accessio/accessio/LinkTypeToAddressPinLaw -/
def k1 : Class := { plain "com/example/accessio/accessio/LinkTypeToAddressPinLaw" (some 0) with
  accessFlags := 49
  interfaces := #[]
  cf := some (fileOf pool1 30 #[] #[{ accessFlags := 2, nameIndex := 5, descriptorIndex := 6, attributes := #[] }, { accessFlags := 10, nameIndex := 33, descriptorIndex := 34, attributes := #[] }, { accessFlags := 9, nameIndex := 42, descriptorIndex := 43, attributes := #[] }] 49 2 #[] #[])
  fields := #[]
  methods := #[k1m0, k1m1, k1m2]
  instanceTypes := #[]
  staticTypes := #[]
  resolved := Array.replicate 46 none
  statics := none }

def pool2 : Array CpInfo := pool [(1, .class_ 2), (0, u "java/lang/constant/Constable"), (0, .class_ 4), (0, u "java/lang/Object")] 6

/-- java/lang/constant/Constable -/
def k2 : Class := { plain "java/lang/constant/Constable" (some 0) with
  accessFlags := 1537
  interfaces := #[]
  cf := some (fileOf pool2 1 #[] #[] 1537 3 #[] #[])
  fields := #[]
  methods := #[]
  instanceTypes := #[]
  staticTypes := #[]
  resolved := Array.replicate 11 none
  statics := none }

def pool3 : Array CpInfo := pool [(1, .class_ 2), (0, u "java/lang/Comparable"), (0, .class_ 4), (0, u "java/lang/Object")] 7

/-- java/lang/Comparable -/
def k3 : Class := { plain "java/lang/Comparable" (some 0) with
  accessFlags := 1537
  interfaces := #[]
  cf := some (fileOf pool3 1 #[] #[] 1537 3 #[] #[])
  fields := #[]
  methods := #[]
  instanceTypes := #[]
  staticTypes := #[]
  resolved := Array.replicate 12 none
  statics := none }

def pool4 : Array CpInfo := pool [(1, .class_ 2), (0, u "java/io/Serializable"), (0, .class_ 4), (0, u "java/lang/Object")] 2

/-- java/io/Serializable -/
def k4 : Class := { plain "java/io/Serializable" (some 0) with
  accessFlags := 1537
  interfaces := #[]
  cf := some (fileOf pool4 1 #[] #[] 1537 3 #[] #[])
  fields := #[]
  methods := #[]
  instanceTypes := #[]
  staticTypes := #[]
  resolved := Array.replicate 7 none
  statics := none }

def pool5 : Array CpInfo := pool [(2, .class_ 4), (1, u "java/lang/Enum"), (0, u "name"), (0, u "Ljava/lang/String;"), (2, u "ordinal"), (0, u "I"), (1, .class_ 14), (1, u "java/lang/Object"), (4, u "hash"), (86, .class_ 108), (1, u "java/lang/Enum$EnumDesc"), (2, .class_ 112), (0, u "java/lang/constant/Constable"), (0, .class_ 114), (0, u "java/lang/Comparable"), (0, .class_ 116), (0, u "java/io/Serializable")] 87

/-- java/lang/Enum -/
def k5 : Class := { plain "java/lang/Enum" (some 0) with
  accessFlags := 1057
  interfaces := #[2, 3, 4]
  cf := some (fileOf pool5 2 #[.nestMembers #[106]] #[] 1057 12 #[111, 113, 115] #[{ accessFlags := 18, nameIndex := 5, descriptorIndex := 6, attributes := #[] }, { accessFlags := 18, nameIndex := 9, descriptorIndex := 10, attributes := #[] }, { accessFlags := 2, nameIndex := 19, descriptorIndex := 10, attributes := #[] }])
  fields := #[{ name := "name", type := (.object "java/lang/String"), accessFlags := 18, slot := 0, constantValue := 0 }, { name := "ordinal", type := .int, accessFlags := 18, slot := 1, constantValue := 0 }, { name := "hash", type := .int, accessFlags := 2, slot := 2, constantValue := 0 }]
  methods := #[]
  instanceTypes := #[(.object "java/lang/String"), .int, .int]
  staticTypes := #[]
  resolved := Array.replicate 204 none
  statics := none }

def pool6 : Array CpInfo := pool [(1, .class_ 2), (0, u "com/example/accessio/accessio/LinkType"), (2, u "HAS_CHAPTER"), (0, u "Lcom/example/accessio/accessio/LinkType;"), (2, u "HAS_ARTICLE"), (2, u "OTHER_LANGUAGE"), (2, u "REPLACES"), (2, u "RELATED_PUBLICATION"), (2, u "RELATED_WEBSITE"), (2, u "$VALUES"), (0, u "[Lcom/example/accessio/accessio/LinkType;"), (6, .class_ 34), (1, u "java/lang/Enum"), (8, u "key"), (0, u "Ljava/lang/String;"), (0, .fieldref 1 46), (0, .nameAndType 47 44), (0, u "reverse"), (2, u "byHand"), (0, u "Z"), (2, u "kinds"), (0, u "Ljava/util/List;"), (11, u "()Z"), (110, u "toAddress")] 60

def k6c0 : Code := { maxStack := 1, maxLocals := 1, code := prog_14_method_6_code, exceptionTable := #[], attributes := #[] }
def k6m0 : Method := { name := "toAddress", desc := "()Z", sig := { parameters := [], returnType := some .boolean }, accessFlags := 0, code := some k6c0 }
/-- com/example/accessio/accessio/LinkType -/
def k6 : Class := { plain "com/example/accessio/accessio/LinkType" (some 5) with
  accessFlags := 16432
  interfaces := #[]
  cf := some (fileOf pool6 1 #[] #[{ accessFlags := 0, nameIndex := 178, descriptorIndex := 67, attributes := #[] }] 16432 32 #[] #[{ accessFlags := 16409, nameIndex := 5, descriptorIndex := 6, attributes := #[] }, { accessFlags := 16409, nameIndex := 9, descriptorIndex := 6, attributes := #[] }, { accessFlags := 16409, nameIndex := 12, descriptorIndex := 6, attributes := #[] }, { accessFlags := 16409, nameIndex := 15, descriptorIndex := 6, attributes := #[] }, { accessFlags := 16409, nameIndex := 18, descriptorIndex := 6, attributes := #[] }, { accessFlags := 16409, nameIndex := 21, descriptorIndex := 6, attributes := #[] }, { accessFlags := 18, nameIndex := 43, descriptorIndex := 44, attributes := #[] }, { accessFlags := 18, nameIndex := 47, descriptorIndex := 44, attributes := #[] }, { accessFlags := 18, nameIndex := 50, descriptorIndex := 51, attributes := #[] }, { accessFlags := 18, nameIndex := 54, descriptorIndex := 55, attributes := #[] }, { accessFlags := 4122, nameIndex := 24, descriptorIndex := 25, attributes := #[] }])
  fields := #[{ name := "HAS_CHAPTER", type := (.object "com/example/accessio/accessio/LinkType"), accessFlags := 16409, slot := 0, constantValue := 0 }, { name := "HAS_ARTICLE", type := (.object "com/example/accessio/accessio/LinkType"), accessFlags := 16409, slot := 1, constantValue := 0 }, { name := "OTHER_LANGUAGE", type := (.object "com/example/accessio/accessio/LinkType"), accessFlags := 16409, slot := 2, constantValue := 0 }, { name := "REPLACES", type := (.object "com/example/accessio/accessio/LinkType"), accessFlags := 16409, slot := 3, constantValue := 0 }, { name := "RELATED_PUBLICATION", type := (.object "com/example/accessio/accessio/LinkType"), accessFlags := 16409, slot := 4, constantValue := 0 }, { name := "RELATED_WEBSITE", type := (.object "com/example/accessio/accessio/LinkType"), accessFlags := 16409, slot := 5, constantValue := 0 }, { name := "key", type := (.object "java/lang/String"), accessFlags := 18, slot := 3, constantValue := 0 }, { name := "reverse", type := (.object "java/lang/String"), accessFlags := 18, slot := 4, constantValue := 0 }, { name := "byHand", type := .boolean, accessFlags := 18, slot := 5, constantValue := 0 }, { name := "kinds", type := (.object "java/util/List"), accessFlags := 18, slot := 6, constantValue := 0 }, { name := "$VALUES", type := (.array (.object "com/example/accessio/accessio/LinkType")), accessFlags := 4122, slot := 6, constantValue := 0 }]
  methods := #[k6m0]
  instanceTypes := #[(.object "java/lang/String"), .int, .int, (.object "java/lang/String"), (.object "java/lang/String"), .boolean, (.object "java/util/List")]
  staticTypes := #[(.object "com/example/accessio/accessio/LinkType"), (.object "com/example/accessio/accessio/LinkType"), (.object "com/example/accessio/accessio/LinkType"), (.object "com/example/accessio/accessio/LinkType"), (.object "com/example/accessio/accessio/LinkType"), (.object "com/example/accessio/accessio/LinkType"), (.array (.object "com/example/accessio/accessio/LinkType"))]
  resolved := Array.replicate 239 none
  statics := some 0 }

def pool7 : Array CpInfo := pool [(2, .class_ 4), (1, u "java/lang/CharSequence"), (42, .class_ 48), (0, u "java/lang/CharSequence$1CodePointIterator"), (10, .class_ 60), (0, u "java/lang/CharSequence$1CharIterator"), (5, .class_ 67), (0, u "java/lang/Object")] 63

/-- java/lang/CharSequence -/
def k7 : Class := { plain "java/lang/CharSequence" (some 0) with
  accessFlags := 1537
  interfaces := #[]
  cf := some (fileOf pool7 2 #[.nestMembers #[47, 59]] #[] 1537 66 #[] #[])
  fields := #[]
  methods := #[]
  instanceTypes := #[]
  staticTypes := #[]
  resolved := Array.replicate 131 none
  statics := none }

def pool8 : Array CpInfo := pool [(1, .class_ 2), (0, u "java/lang/constant/ConstantDesc"), (0, .class_ 4), (0, u "java/lang/Object")] 32

/-- java/lang/constant/ConstantDesc -/
def k8 : Class := { plain "java/lang/constant/ConstantDesc" (some 0) with
  accessFlags := 1537
  interfaces := #[]
  cf := some (fileOf pool8 1 #[] #[] 1537 3 #[] #[])
  fields := #[]
  methods := #[]
  instanceTypes := #[]
  staticTypes := #[]
  resolved := Array.replicate 37 none
  statics := none }

def pool9 : Array CpInfo := pool [(2, .class_ 4), (1, u "java/lang/Object"), (0, u "<init>"), (0, u "()V"), (3, .class_ 12), (1, u "java/lang/String"), (0, u "value"), (0, u "[B"), (2, u "coder"), (0, u "B"), (2, u "hash"), (0, u "I"), (2, u "hashIsZero"), (0, u "Z"), (13, u "COMPACT_STRINGS"), (534, .class_ 576), (0, u "java/lang/CharSequence"), (22, u "CASE_INSENSITIVE_ORDER"), (0, u "Ljava/util/Comparator;"), (500, u "serialPersistentFields"), (0, u "[Ljava/io/ObjectStreamField;"), (0, .class_ 1104), (0, u "java/lang/String$CaseInsensitiveComparator"), (1, .class_ 1107), (0, u "java/io/Serializable"), (0, .class_ 1109), (0, u "java/lang/Comparable"), (0, .class_ 1111), (0, u "java/lang/constant/Constable"), (0, .class_ 1113), (0, u "java/lang/constant/ConstantDesc"), (2, u "serialVersionUID"), (0, u "J"), (3, u "REPL"), (0, u "C"), (2, u "LATIN1"), (1, u "UTF16")] 323

def k9m0 : Method := { name := "<init>", desc := "()V", sig := { parameters := [], returnType := none }, accessFlags := 1, code := none }
/-- java/lang/String -/
def k9 : Class := { plain "java/lang/String" (some 0) with
  accessFlags := 49
  interfaces := #[4, 3, 7, 2, 8]
  cf := some (fileOf pool9 10 #[.nestMembers #[1103]] #[{ accessFlags := 1, nameIndex := 5, descriptorIndex := 6, attributes := #[] }] 49 2 #[1106, 1108, 575, 1110, 1112] #[{ accessFlags := 18, nameIndex := 13, descriptorIndex := 14, attributes := #[] }, { accessFlags := 18, nameIndex := 17, descriptorIndex := 18, attributes := #[] }, { accessFlags := 2, nameIndex := 21, descriptorIndex := 22, attributes := #[] }, { accessFlags := 2, nameIndex := 25, descriptorIndex := 26, attributes := #[] }, { accessFlags := 26, nameIndex := 1116, descriptorIndex := 1117, attributes := #[] }, { accessFlags := 24, nameIndex := 40, descriptorIndex := 26, attributes := #[] }, { accessFlags := 26, nameIndex := 1101, descriptorIndex := 1102, attributes := #[] }, { accessFlags := 26, nameIndex := 1121, descriptorIndex := 1122, attributes := #[] }, { accessFlags := 25, nameIndex := 599, descriptorIndex := 600, attributes := #[] }, { accessFlags := 24, nameIndex := 1125, descriptorIndex := 18, attributes := #[] }, { accessFlags := 24, nameIndex := 1127, descriptorIndex := 18, attributes := #[] }])
  fields := #[{ name := "value", type := (.array .byte), accessFlags := 18, slot := 0, constantValue := 0 }, { name := "coder", type := .byte, accessFlags := 18, slot := 1, constantValue := 0 }, { name := "hash", type := .int, accessFlags := 2, slot := 2, constantValue := 0 }, { name := "hashIsZero", type := .boolean, accessFlags := 2, slot := 3, constantValue := 0 }, { name := "serialVersionUID", type := .long, accessFlags := 26, slot := 0, constantValue := 0 }, { name := "COMPACT_STRINGS", type := .boolean, accessFlags := 24, slot := 1, constantValue := 0 }, { name := "serialPersistentFields", type := (.array (.object "java/io/ObjectStreamField")), accessFlags := 26, slot := 2, constantValue := 0 }, { name := "REPL", type := .char, accessFlags := 26, slot := 3, constantValue := 0 }, { name := "CASE_INSENSITIVE_ORDER", type := (.object "java/util/Comparator"), accessFlags := 25, slot := 4, constantValue := 0 }, { name := "LATIN1", type := .byte, accessFlags := 24, slot := 5, constantValue := 0 }, { name := "UTF16", type := .byte, accessFlags := 24, slot := 6, constantValue := 0 }]
  methods := #[k9m0]
  instanceTypes := #[(.array .byte), .byte, .int, .boolean]
  staticTypes := #[.long, .boolean, (.array (.object "java/io/ObjectStreamField")), .char, (.object "java/util/Comparator"), .byte, .byte]
  resolved := Array.replicate 1451 none
  statics := none }

def pool10 : Array CpInfo := pool [(1, u "java/lang/Cloneable"), (0, .class_ 1), (0, u "java/lang/Object"), (0, .class_ 3)] 3

/-- java/lang/Cloneable -/
def k10 : Class := { plain "java/lang/Cloneable" (some 0) with
  accessFlags := 1537
  interfaces := #[]
  cf := some (fileOf pool10 2 #[] #[] 1537 4 #[] #[])
  fields := #[]
  methods := #[]
  instanceTypes := #[]
  staticTypes := #[]
  resolved := Array.replicate 8 none
  statics := none }

/-- the primitive byte -/
def k11 : Class := { plain "byte" none with kind := .primitive 'B', accessFlags := 0x411 }
/-- [B -/
def k12 : Class := { plain "[B" (some 0) with kind := .array 11 .byte, interfaces := #[10, 4], accessFlags := 1041 }

/-- the primitive int -/
def k13 : Class := { plain "int" none with kind := .primitive 'I', accessFlags := 0x411 }
/-- [I -/
def k14 : Class := { plain "[I" (some 0) with kind := .array 13 .int, interfaces := #[10, 4], accessFlags := 1041 }

def heap : Heap := #[{ cls := 6, slots := #[.ref 2, .ref 3, .ref 4, .ref 5, .ref 6, .ref 7, .null], vm := .statics 6 },
  { cls := 9, slots := #[.null, .int 0, .int 0, .int 0], vm := .none },
  { cls := 6, slots := #[.null, .int 0, .int 0, .null, .ref 1, .int 0, .null], vm := .none },
  { cls := 6, slots := #[.null, .int 1, .int 0, .null, .ref 1, .int 0, .null], vm := .none },
  { cls := 6, slots := #[.null, .int 2, .int 0, .null, .ref 1, .int 0, .null], vm := .none },
  { cls := 6, slots := #[.null, .int 3, .int 0, .null, .ref 1, .int 0, .null], vm := .none },
  { cls := 6, slots := #[.null, .int 4, .int 0, .null, .ref 1, .int 0, .null], vm := .none },
  { cls := 6, slots := #[.null, .int 5, .int 0, .null, .null, .int 0, .null], vm := .none }]
def classes : Array Class := #[k0, k1, k2, k3, k4, k5, k6, k7, k8, k9, k10, k11, k12, k13, k14]
def interned : List (Array UInt16 × Addr) := []
def slotsUsed : Nat := 53
def theMethod : MethodId := ⟨1, 2⟩
def args0 : Array Value := #[.int 5]
def aboutOver (below : List Frame) : State where
  vm := { classes := classes, interned := interned.toArray }
  heap := heap
  slotsUsed := slotsUsed
  threads := #[{ frames := .invoking theMethod args0 :: below }]
def below0 : List Frame := [.native { method := ⟨0, 0⟩, args := #[] }]
def about1 : State := aboutOver below0
def p0 : Program := .bare "" "" ""
def e0 : Env := launch0.env 0 0 0
theorem w_frames : about1.frames = Frame.invoking theMethod args0 :: below0 := rfl
set_option maxRecDepth 65536 in
theorem w_args : argsFit about1.vm theMethod args0 = true := by decide +kernel
set_option maxRecDepth 65536 in
theorem w_heap : heapFits about1 = true := by decide +kernel
set_option maxRecDepth 65536 in
theorem w_runnable : about1.curStatus? = some .runnable := by decide +kernel
set_option maxRecDepth 65536 in
theorem w_alone : about1.alone = true := by decide +kernel
set_option maxRecDepth 65536 in
theorem w_named : about1.methodNamed? x = some theMethod := by decide +kernel
set_option maxRecDepth 65536 in
theorem w_hears : about1.hears theMethod below0 = true := by decide +kernel
set_option maxRecDepth 65536 in
theorem w_ripe : about1.ripe theMethod args0 below0 = true := by decide +kernel
theorem w_running : about1.status = .running := rfl
set_option maxRecDepth 65536 in
theorem w_room : about1.hasRoom e0.platform room_1 = true :=
  launch0.hasRoom_least _ room_1 (by decide +kernel) (by decide +kernel) (by decide +kernel) (by decide +kernel) (by decide +kernel) (by decide +kernel)
theorem allAtoms_all (ts : List Jvm.Cond) (a : Array Jvm.Value) (st : Jvm.State) : (allAtoms ts).before a st = ts.all (fun c => c.before a st) := by
  induction ts with
  | nil => rfl
  | cons c t ih =>
    show (Jvm.Cond.and c (allAtoms t)).before a st = _
    rw [Jvm.Cond.before_and, ih, List.all_cons]
def words1 : List Jvm.Cond := Jvm.Cond.code x code maxLocals ret :: tables_1
/-- a 'code' word, met by the world's own term for the bytes: nothing is compared byte by byte -/
theorem code_word {y : MethodName} {bytes : ByteArray} {mx : Nat} {rt : Option FieldType} {a : Array Value} {s : State} {m : MethodId} {meth : Method} {c : Code} (h1 : s.methodNamed? y = some m) (h2 : s.vm.method? m = some meth) (h3 : meth.code = some c) (h4 : c.code = bytes)
    (h5 : (c.maxLocals == mx && c.exceptionTable.isEmpty && decide (c.maxStack ≤ mostOperands) && decide (meth.sig.returnType = rt) && !meth.locks && decide (parseMethodDescriptor y.desc = some meth.sig)) = true) : (Jvm.Cond.code y bytes mx rt).before a s = true := by
  simp only [Bool.and_eq_true, beq_iff_eq, Bool.not_eq_true', decide_eq_true_eq] at h5
  obtain ⟨⟨⟨⟨⟨g1, g2⟩, g3⟩, g4⟩, g5⟩, g6⟩ := h5
  simp [Cond.before, Cond.holds, Cond.value, h1, h2, h3, h4, g1, g2, g3, g4, g5, g6]
def isCode : Jvm.Cond → Bool
  | .code _ _ _ _ => true
  | _ => false
theorem all_split {L : List Jvm.Cond} {P : Jvm.Cond → Bool} (h1 : L.all (fun c => isCode c || P c) = true) (h2 : ∀ c ∈ L.filter isCode, P c = true) : L.all P = true := by
  refine List.all_eq_true.mpr fun c hc => ?_
  have h := List.all_eq_true.mp h1 c hc
  rcases Bool.eq_false_or_eq_true (isCode c) with hi | hi
  · exact h2 c (List.mem_filter.mpr ⟨hc, hi⟩)
  · simpa [hi] using h
set_option maxRecDepth 65536 in
theorem w_c0 : (Jvm.Cond.code x code maxLocals ret).before args0 about1 = true := code_word (m := ⟨1, 2⟩) (meth := k1m2) (c := k1c2) (by decide +kernel) rfl rfl rfl (by decide +kernel)
set_option maxRecDepth 65536 in
theorem w_c1 : (Jvm.Cond.code ({ cls := "com/example/accessio/accessio/LinkTypeToAddressPinLaw", name := "pick", desc := "(I)Lcom/example/accessio/accessio/LinkType;" } : Jvm.MethodName) method_2_code (1 : Nat) (Option.some (Jvm.ClassFile.FieldType.object "com/example/accessio/accessio/LinkType"))).before args0 about1 = true := code_word (m := ⟨1, 1⟩) (meth := k1m1) (c := k1c1) (by decide +kernel) rfl rfl rfl (by decide +kernel)
set_option maxRecDepth 65536 in
theorem w_c2 : (Jvm.Cond.code ({ cls := "com/example/accessio/accessio/LinkType", name := "toAddress", desc := "()Z" } : Jvm.MethodName) prog_14_method_6_code (1 : Nat) (Option.some Jvm.ClassFile.FieldType.boolean)).before args0 about1 = true := code_word (m := ⟨6, 0⟩) (meth := k6m0) (c := k6c0) (by decide +kernel) rfl rfl rfl (by decide +kernel)
def codes1 : List Jvm.Cond := [Jvm.Cond.code x code maxLocals ret, Jvm.Cond.code ({ cls := "com/example/accessio/accessio/LinkTypeToAddressPinLaw", name := "pick", desc := "(I)Lcom/example/accessio/accessio/LinkType;" } : Jvm.MethodName) method_2_code (1 : Nat) (Option.some (Jvm.ClassFile.FieldType.object "com/example/accessio/accessio/LinkType")), Jvm.Cond.code ({ cls := "com/example/accessio/accessio/LinkType", name := "toAddress", desc := "()Z" } : Jvm.MethodName) prog_14_method_6_code (1 : Nat) (Option.some Jvm.ClassFile.FieldType.boolean)]
set_option maxRecDepth 65536 in
theorem codes_eq : words1.filter isCode = codes1 := rfl
theorem w_codes : ∀ c ∈ words1.filter isCode, c.before args0 about1 = true := by
  rw [codes_eq]
  intro c hc
  simp only [codes1, List.mem_cons, List.not_mem_nil, or_false] at hc
  rcases hc with rfl | rfl | rfl
  · exact w_c0
  · exact w_c1
  · exact w_c2
set_option maxRecDepth 65536 in
theorem w_t1 : (words1.take 24).all (fun c => isCode c || c.before args0 about1) = true := by decide +kernel
set_option maxRecDepth 65536 in
theorem w_t2 : (words1.drop 24).all (fun c => isCode c || c.before args0 about1) = true := by decide +kernel
theorem w_tables : (allAtoms (Jvm.Cond.code x code maxLocals ret :: tables_1)).before args0 about1 = true := by
  rw [allAtoms_all]
  show words1.all (fun c => c.before args0 about1) = true
  refine all_split ?_ w_codes
  rw [← List.take_append_drop 24 words1, List.all_append, w_t1, w_t2]
  rfl
set_option maxRecDepth 65536 in
theorem w_case : (Jvm.Cond.and given_1 narrow_1).before args0 about1 = true := by decide +kernel
theorem w_applies : (headSpec (Jvm.Cond.code x code maxLocals ret :: tables_1) room_1).applies x e0.platform about1 = true :=
  (Spec.applies_iff w_frames).mpr ⟨w_running, w_runnable, w_alone, w_named, w_hears, w_ripe, w_room, w_tables⟩
theorem atStart : AtStart classFile x code maxLocals ret World_1 tables_1 room_1 Calls_1 rest_1 Pre_1 launch0 p0 e0 about1 theMethod args0 below0 :=
  ⟨lists_1, trivial, launch0.admits_env _ _ _, launch0.least_env, fairChoices_fair.cas, fairChoices_fair.clock, w_frames, w_args, w_heap, w_applies, trivial, trivial, w_case⟩
end start1
theorem witness_1 : WitnessClaimed_1 := ⟨start1.p0, start1.e0, start1.about1, start1.theMethod, start1.args0, start1.below0, start1.atStart⟩
end Jvm.Pilot.@@N@@
