import JvmDerived
import JvmDerived.Pilot.@@N@@Statement
import JvmDerived.Pilot.@@N@@Code
set_option linter.unusedVariables false
set_option linter.unusedSimpArgs false
namespace Jvm.Own
open Sem ClassFile Op Lib Jvm.Stand Jvm.Free Jvm.LawKit Jvm.RoadKit
section Core
variable {p : Program} {l : Launch} {e : Env} {R : Room} {s : State} {m : MethodId} {args : Array Value} {below : List Frame} {meth : Method} {c : Code} {Z : State} {a0 : Array Value} {h h' : Heap} {k n k' n' : Nat} {Q : Option Value → Heap → Prop} {g g' : JFrame} {code : ByteArray} {ml : Nat} {own nm : String} {rty : Option FieldType} {pc pc' : Nat} {Ls : Array Slot} {St : List Value}
/-- what stays the same along the walk of one body -/
def Cx (p : Program) (s : State) (m : MethodId) (meth : Method) (c : Code) (code : ByteArray) (ml : Nat) (rty : Option FieldType) (nm own : String) (Z : State) : Prop :=
  p.tables.exec = Jvm.exec ∧ c.code = code ∧ c.maxLocals = ml ∧ Z.Warmed39 s.vm ∧ s.vm.findClass own = some m.cls ∧ meth.sig.returnType = rty ∧ meth.name = nm ∧ meth.locks = false
theorem Cx.hx (C : Cx p s m meth c code ml rty nm own Z) : p.tables.exec = Jvm.exec := C.1
theorem Cx.hby (C : Cx p s m meth c code ml rty nm own Z) : c.code = code := C.2.1
theorem Cx.hml (C : Cx p s m meth c code ml rty nm own Z) : c.maxLocals = ml := C.2.2.1
theorem Cx.hZ (C : Cx p s m meth c code ml rty nm own Z) : Z.Warmed39 s.vm := C.2.2.2.1
theorem Cx.hown (C : Cx p s m meth c code ml rty nm own Z) : s.vm.findClass own = some m.cls := C.2.2.2.2.1
theorem Cx.hret (C : Cx p s m meth c code ml rty nm own Z) : meth.sig.returnType = rty := C.2.2.2.2.2.1
theorem Cx.hnm (C : Cx p s m meth c code ml rty nm own Z) : meth.name = nm := C.2.2.2.2.2.2.1
theorem Cx.hlk (C : Cx p s m meth c code ml rty nm own Z) : meth.locks = false := C.2.2.2.2.2.2.2
theorem Cx.d (C : Cx p s m meth c code ml rty nm own Z) {r : Except DecodeError (Instr × Nat)} (hd : decode code pc = r) : decode c.code pc = r := C.hby ▸ hd
/-- from every state that stands so, with heap h and the frame g on top, the body comes to its end, and Q holds there; what stood at Z stands -/
def Go (p : Program) (l : Launch) (e : Env) (R : Room) (s : State) (m : MethodId) (args : Array Value) (below : List Frame) (meth : Method) (c : Code) (Z : State) (Q : Option Value → Heap → Prop) (h : Heap) (k n : Nat) (g : JFrame) : Prop :=
  ∀ T L, Ext Z.heap h → Fr Z.heap.size L → Stand p l e R s m args below meth c T L k n → T.heap = h → ∃ s₂ o, Steps p.tables e below (T.setTop g) s₂ ∧ s₂.status = .running ∧ Ended s₂ below o ∧ ∃ v L', o = .returned v ∧ (Q v s₂.heap ∧ Ext Z.heap s₂.heap ∧ Fr Z.heap.size L') ∧ FrameEnd s o s₂ L' R.cells R.slots
/-- what a method pays where it is called with these arguments at this heap -/
def Pays (l : Launch) (Z : State) (y : MethodName) (bytes : ByteArray) (ml : Nat) (rty : Option FieldType) (rm : Room) (as' : Array Value) (h0 : Heap) (Q : Option Value → Heap → Prop) : Prop :=
  Ext Z.heap h0 → ∀ ws, MetFree l y (head1 (Jvm.Cond.code y bytes ml rty :: ws) rm) (fun a U => a = as' ∧ Z.Warmed39 U.vm ∧ U.heap = h0) (fun _ _ _ _ _ => True) (fun _ U o U' => ∃ v L, o = .returned v ∧ (Q v U'.heap ∧ Ext Z.heap U'.heap ∧ Fr Z.heap.size L) ∧ FrameEnd U o U' L rm.cells rm.slots)
abbrev Vl (Q : Value → Heap → Prop) : Option Value → Heap → Prop := fun v h => ∃ w, v = some w ∧ Q w h
abbrev Nl (Q : Heap → Prop) : Option Value → Heap → Prop := fun v h => v = none ∧ Q h
theorem pays_of_go {y : MethodName} {bytes : ByteArray} {rm : Room} {as' : Array Value} {h0 : Heap} {F : MethodId → JFrame} (hpl : plainFor y = true) (hF : ∀ m, entryFrame m as' ml = F m)
    (body : ∀ p e s m below meth c, Cx p s m meth c bytes ml rty y.name y.cls Z → Go p l e rm s m as' below meth c Z Q h0 0 0 (F m)) : Pays l Z y bytes ml rty rm as' h0 Q := by
  intro hE ws
  refine MetFree.of_bodySF hpl hisR ?_
  intro p e s m args below meth c s₁ Bd hml0 hP hK
  obtain ⟨rfl, hZ, hh⟩ := hP
  have e0 : s₁.heap = h0 := by rw [← hh, Bd.state]; rfl
  have X0 : Stand p l e rm s m args below meth c s₁ [] 0 0 := Stand.of_body Bd
  have q := body p e s m below meth c ⟨Bd.exec, Bd.bytes, hml0, hZ, findClass_of_methodNamed Bd.named, Bd.returns, (name_of_methodNamed Bd.named Bd.method).1, Bd.notSynchronized⟩ s₁ [] hE (Fr.nil _) X0 e0
  rw [hF]
  exact q
theorem Pays.mono {y : MethodName} {bytes : ByteArray} {rm : Room} {as' : Array Value} {h0 : Heap} {Q' : Option Value → Heap → Prop} (P : Pays l Z y bytes ml rty rm as' h0 Q) (H : ∀ v h, Q v h → Q' v h) : Pays l Z y bytes ml rty rm as' h0 Q' := fun hE ws =>
  (P hE ws).mono (fun _ _ q => q) (fun _ _ _ _ _ q => q) (fun _ _ _ _ _ ⟨v, L, e, q, r⟩ => ⟨v, L, e, ⟨H _ _ q.1, q.2⟩, r⟩)
theorem Go.plain (H : ∀ T L, Stand p l e R s m args below meth c T L k n → ∀ t, Steps p.tables e below (T.setTop g') t → Steps p.tables e below (T.setTop g) t) (K : Go p l e R s m args below meth c Z Q h k n g') : Go p l e R s m args below meth c Z Q h k n g := fun T L hE hF X eT => by
  obtain ⟨s₂, o, st, r⟩ := K T L hE hF X eT
  exact ⟨s₂, o, H T L X _ st, r⟩
theorem Go.law0 (H : ∀ T L, Stand p l e R s m args below meth c T L k n → T.heap = h → ∃ T', Stand p l e R s m args below meth c T' L k n ∧ T'.heap = h ∧ ∀ t, Steps p.tables e below (T'.setTop g') t → Steps p.tables e below (T.setTop g) t) (K : Go p l e R s m args below meth c Z Q h k n g') : Go p l e R s m args below meth c Z Q h k n g := fun T L hE hF X eT => by
  obtain ⟨T', X', eT', st'⟩ := H T L X eT
  obtain ⟨s₂, o, st, r⟩ := K T' L hE hF X' eT'
  exact ⟨s₂, o, st' _ st, r⟩
theorem Go.old (K : Ext Z.heap h → Go p l e R s m args below meth c Z Q h k n g) : Go p l e R s m args below meth c Z Q h k n g := fun T L hE hF X eT => K hE T L hE hF X eT
theorem stand_more {T : State} {L : List Loc} (X : Stand p l e R s m args below meth c T L k n) (hk : k ≤ k') (hn : n ≤ n') : Stand p l e R s m args below meth c T L k' n' :=
  ⟨X.admits, X.cas, X.clock, X.frames, X.room, X.hears, X.method, X.code, X.here, X.tail, X.warmed, X.limits, X.bytes, X.same.mono hk hn⟩
/-- less may have been made than is booked -/
theorem Go.more (hk : k ≤ k') (hn : n ≤ n') (K : Go p l e R s m args below meth c Z Q h k' n' g) : Go p l e R s m args below meth c Z Q h k n g := fun T L hE hF X eT => K T L hE hF (stand_more X hk hn) eT
theorem ext_refl (h : Heap) : Ext h h := ⟨Nat.le_refl _, fun _ _ q => q⟩
theorem ext_trans {h1 h2 h3 : Heap} (E : Ext h1 h2) (E' : Ext h2 h3) : Ext h1 h3 := ⟨Nat.le_trans E.1 E'.1, fun a c q => E'.2 a c (E.2 a c q)⟩
theorem ext_wr {h1 h2 h3 : Heap} {a : Addr} {sl : Nat} {v : Value} (E : Ext h1 h2) (W : Wr h2 h3 a sl v) (q : h1.size ≤ a) : Ext h1 h3 :=
  have K := Keep.of_wr W
  ⟨Nat.le_trans E.1 K.1, fun x c r => K.2.1 x c (E.2 x c r) fun z => absurd (Array.getElem?_eq_some_iff.mp r).1 (Nat.not_lt.mpr (by cases List.mem_singleton.mp z; exact q))⟩
theorem ext_keep {h1 h2 h3 : Heap} {ws : List Addr} (E : Ext h1 h2) (K : Keep h2 h3 ws) (q : ∀ x ∈ ws, h1.size ≤ x) : Ext h1 h3 :=
  ⟨Nat.le_trans E.1 K.1, fun x c r => K.2.1 x c (E.2 x c r) fun z => absurd (Array.getElem?_eq_some_iff.mp r).1 (Nat.not_lt.mpr (q x z))⟩
theorem keep_ext {h1 h2 : Heap} (E : Ext h1 h2) (ws : List Addr) : Keep h1 h2 ws := (Keep.refl _ _).ext E
theorem ext_keep1 {h1 h2 h3 : Heap} {a : Addr} (E : Ext h1 h2) (K : Keep h2 h3 [a]) (q : h1.size ≤ a) : Ext h1 h3 := ext_keep E K (allS q all0)
theorem catV {v : Value} (h : v.isRef = true) : v.category = 1 := by rcases ref_cases h with rfl | ⟨_, rfl⟩ <;> rfl
theorem narR (ty : FieldType) (v : Value) (h : v.isRef = true) : narrow ty v = v := by rcases ref_cases h with rfl | ⟨_, rfl⟩ <;> cases ty <;> rfl
theorem fitR' {ty : FieldType} {v : Value} (ht : ty.isReference = true) (h : v.isRef = true) : fits ty v = true := by rcases ref_cases h with rfl | ⟨_, rfl⟩ <;> cases ty <;> first | rfl | (simp [FieldType.isReference] at ht)
theorem ins_keep {a : Addr} {cK : String} {b : Bool} {ws : List Addr} (F : Ins Z h a cK b) (K : Keep h h' ws) : Ins Z h' a cK b := by
  obtain ⟨cell, cT, h1, h2, h3⟩ := F
  obtain ⟨c', q, r1, r2, -⟩ := K.2.2 a cell h1
  exact ⟨c', cT, q, h2, by rw [r1, r2]; exact h3⟩
theorem faceOk {r fn d : String} (q : r ≠ "java/lang/invoke/MethodHandle" ∧ r ≠ "java/lang/invoke/VarHandle") : ((Jvm.Cond.interfaceMethod r r fn d).onTables && (Jvm.Cond.interfaceMethod r r fn d).keepsFace) = true := by
  show (true && (false || (r == r && r != "java/lang/invoke/MethodHandle" && r != "java/lang/invoke/VarHandle"))) = true
  simp [q.1, q.2]
/-! ### the single laws -/
theorem Go.ldcI (C : Cx p s m meth c code ml rty nm own Z) {idx : Nat} {v : Int32} (w : (Jvm.Cond.constant own idx v).before a0 Z = true) (hd : decode code pc = .ok (.ldc idx, 2)) (hp : pc + 2 = pc')
    (K : Go p l e R s m args below meth c Z Q h k n (mkF m pc' Ls (.int v :: St))) : Go p l e R s m args below meth c Z Q h k n (mkF m pc Ls St) := by
  subst hp
  exact Go.plain (fun T L X t q => X.ldcInt C.hx C.hown (mv C.hZ w) (g := mkF m pc Ls St) rfl (C.d hd) t q) K
theorem Go.irem (C : Cx p s m meth c code ml rty nm own Z) {x y : Int32} (hd : decode code pc = .ok (.irem, 1)) (hy : y ≠ 0) (hp : pc + 1 = pc')
    (K : Go p l e R s m args below meth c Z Q h k n (mkF m pc' Ls (.int (x % y) :: St))) : Go p l e R s m args below meth c Z Q h k n (mkF m pc Ls (.int y :: .int x :: St)) := by
  subst hp
  exact Go.plain (fun T L X t q => iremM (g := mkF m pc Ls (.int y :: .int x :: St)) X C.hx rfl (C.d hd) rfl hy q) K
theorem Go.getF (C : Cx p s m meth c code ml rty nm own Z) {R0 O fn d host : String} {idx : Nat} (w : (Jvm.Cond.fieldLink own idx R0 fn d).before a0 Z = true ∨ (Jvm.Cond.fieldLinkNest own idx R0 fn d host).before a0 Z = true) (via : Via Z R0 O fn d) {a : Addr} {v : Value} (F : Fld Z h a O fn d v)
    (hd : decode code pc = .ok (.getfield idx, 3)) (hp : pc + 3 = pc') (K : Go p l e R s m args below meth c Z Q h k n (mkF m pc' Ls (v :: St))) : Go p l e R s m args below meth c Z Q h k n (mkF m pc Ls (.ref a :: St)) := by
  subst hp
  exact Go.law0 (fun T L X eT => Jvm.RoadKit.getF X C.hx C.hZ C.hown w via eT F (g := mkF m pc Ls (.ref a :: St)) rfl rfl (C.d hd)) K
theorem Go.getS (C : Cx p s m meth c code ml rty nm own Z) {R0 O fn d host : String} {idx : Nat} (w : (Jvm.Cond.fieldLink own idx R0 fn d).before a0 Z = true ∨ (Jvm.Cond.fieldLinkNest own idx R0 fn d host).before a0 Z = true) (via : Via Z R0 O fn d) {v : Value} (F : Sta Z Z.heap O fn d v)
    (hd : decode code pc = .ok (.getstatic idx, 3)) (hp : pc + 3 = pc') (K : Go p l e R s m args below meth c Z Q h k n (mkF m pc' Ls (v :: St))) : Go p l e R s m args below meth c Z Q h k n (mkF m pc Ls St) := by
  subst hp
  exact Go.old fun hE => Go.law0 (fun T L X eT => Jvm.RoadKit.getS2 X C.hx C.hZ C.hown w via eT (F.ext hE) (g := mkF m pc Ls St) rfl (C.d hd)) K
theorem Go.new (C : Cx p s m meth c code ml rty nm own Z) {cl : String} {idx sl : Nat} (w : (Jvm.Cond.classLink own idx cl).before a0 Z = true) (wi : (Jvm.Cond.instantiable cl sl).before a0 Z = true) (wz : (Jvm.Cond.initialized cl).before a0 Z = true) (hd : decode code pc = .ok (.new idx, 3)) (hp : pc + 3 = pc')
    (hk : k + 1 = k') (hn : n + sl = n') (hc : k' ≤ R.cells) (hl : n' ≤ R.slots)
    (K : ∀ (a : Addr) (h' : Heap), a = h.size → Z.heap.size ≤ a → Ext h h' → Exa Z h' a cl → (∀ {O fn d : String} {ty : FieldType}, Laid Z a0 cl O fn d → parseFieldDescriptor d = some ty → Fld Z h' a O fn d (defaultValue ty)) → Go p l e R s m args below meth c Z Q h' k' n' (mkF m pc' Ls (.ref a :: St))) :
    Go p l e R s m args below meth c Z Q h k n (mkF m pc Ls St) := by
  subst hp hk hn
  intro T L hE hF X eT
  obtain ⟨T', h2, X', e', E', A', D', -, st'⟩ := newO X C.hx C.hZ C.hown w wi wz eT (g := mkF m pc Ls St) rfl (C.d hd) hc hl
  obtain ⟨s₂, o, st, r⟩ := K _ h2 rfl hE.1 E' A' D' T' L (ext_trans hE E') hF X' e'
  exact ⟨s₂, o, st' _ st, r⟩
theorem Go.putF (C : Cx p s m meth c code ml rty nm own Z) {R0 O fn d host cl : String} {idx kk : Nat} {ty : FieldType} (w : (Jvm.Cond.fieldLink own idx R0 fn d).before a0 Z = true ∨ (Jvm.Cond.fieldLinkNest own idx R0 fn d host).before a0 Z = true) (via : Via Z R0 O fn d) {a : Addr} {v old : Value} (F : Fld Z h a O fn d old) (E : Exa Z h a cl)
    (Ly : (Jvm.Cond.lays cl O fn d).before a0 Z = true ∨ ((Jvm.Cond.laysFinal cl O fn d).before a0 Z = true ∧ own = O ∧ nm = "<init>")) (wi : (Jvm.Cond.instantiable cl kk).before a0 Z = true) (hty : parseFieldDescriptor d = some ty) (hn1 : narrow ty v = v) (hf : fits ty v = true) (ha : Z.heap.size ≤ a)
    (hd : decode code pc = .ok (.putfield idx, 3)) (hp : pc + 3 = pc')
    (K : ∀ h', Wr h h' a (Jvm.RoadKit.slotOf Z O fn d) v → Go p l e R s m args below meth c Z Q h' k n (mkF m pc' Ls St)) : Go p l e R s m args below meth c Z Q h k n (mkF m pc Ls (v :: .ref a :: St)) := by
  subst hp
  intro T L hE hF X eT
  obtain ⟨T', h2, X', e', W', st'⟩ := Jvm.RoadKit.putF X C.hx C.hZ C.hown w via eT F E (Ly.imp id fun q => ⟨q.1, q.2.1, C.hnm.trans q.2.2⟩) wi hty hn1 hf (g := mkF m pc Ls (v :: .ref a :: St)) rfl rfl (C.d hd)
  obtain ⟨s₂, o, st, r⟩ := K h2 W' T' _ (ext_wr hE W' ha) (Fr.snoc X' hF ha) X' e'
  exact ⟨s₂, o, st' _ st, r⟩
/-- a putfield of a boolean, byte, char or short: what lies there is the narrowed value -/
theorem Go.putFN (C : Cx p s m meth c code ml rty nm own Z) {R0 O fn d cl : String} {idx kk : Nat} {ty : FieldType} (w : (Jvm.Cond.fieldLink own idx R0 fn d).before a0 Z = true) (via : Via Z R0 O fn d) {a : Addr} {v v' old : Value} (F : Fld Z h a O fn d old) (E : Exa Z h a cl)
    (Ly : (Jvm.Cond.lays cl O fn d).before a0 Z = true ∨ ((Jvm.Cond.laysFinal cl O fn d).before a0 Z = true ∧ own = O ∧ nm = "<init>")) (wi : (Jvm.Cond.instantiable cl kk).before a0 Z = true) (hty : parseFieldDescriptor d = some ty) (hn1 : narrow ty v = v') (hf : fits ty v' = true) (ha : Z.heap.size ≤ a)
    (hd : decode code pc = .ok (.putfield idx, 3)) (hp : pc + 3 = pc')
    (K : ∀ h', Wr h h' a (Jvm.RoadKit.slotOf Z O fn d) v' → Go p l e R s m args below meth c Z Q h' k n (mkF m pc' Ls St)) : Go p l e R s m args below meth c Z Q h k n (mkF m pc Ls (v :: .ref a :: St)) := by
  subst hp
  intro T L hE hF X eT
  obtain ⟨T', h2, X', e', W', st'⟩ := Jvm.RoadKit.putFN X C.hx C.hZ C.hown w via eT F E (Ly.imp id fun q => ⟨q.1, q.2.1, C.hnm.trans q.2.2⟩) wi hty hn1 hf (g := mkF m pc Ls (v :: .ref a :: St)) rfl rfl (C.d hd)
  obtain ⟨s₂, o, st, r⟩ := K h2 W' T' _ (ext_wr hE W' ha) (Fr.snoc X' hF ha) X' e'
  exact ⟨s₂, o, st' _ st, r⟩
theorem Go.initO (C : Cx p s m meth c code ml rty nm own Z) {idx : Nat} (w1 : (Jvm.Cond.methodLink own idx Lib.objectInit).before a0 Z = true) (w2 : (Jvm.Cond.instanceMethod Lib.objectInit).before a0 Z = true) (w3 : (Jvm.Cond.code Lib.objectInit ⟨#[0xb1]⟩ 1 none).before a0 Z = true) {a : Addr}
    (hd : decode code pc = .ok (.invokespecial idx, 3)) (hp : pc + 3 = pc') (hs : Ls.size = ml) (hf : 1 ≤ R.frames) {W : Nat} (hW : (St.map fun v => v.category).sum ≤ W) (hl : W + 12 ≤ R.locals)
    (K : Go p l e R s m args below meth c Z Q h k n (mkF m pc' Ls St)) : Go p l e R s m args below meth c Z Q h k n (mkF m pc Ls (.ref a :: St)) := by
  subst hp
  exact Go.law0 (fun T L X eT => Jvm.RoadKit.initO X C.hx C.hZ C.hown w1 w2 w3 eT (g := mkF m pc Ls (.ref a :: St)) rfl (hs.trans C.hml.symm) rfl (C.d hd) hf (W := W) (by show 2 * 0 + _ ≤ _; omega) hl) K
theorem Go.newP (C : Cx p s m meth c code ml rty nm own Z) {aty : ArrayType} (w : (Jvm.Cond.arrayClass (newarray.typeOf aty)).before a0 Z = true) {z : Int32} (hz : ¬ z < 0) {cap : Nat} (hcap : z.toNatClampNeg ≤ cap) (hb : cap * 8 ≤ 536870912) (hd : decode code pc = .ok (.newarray aty, 2)) (hp : pc + 2 = pc')
    (hk : k + 1 = k') (hn : n + cap = n') (hc : k' ≤ R.cells) (hl : n' ≤ R.slots)
    (K : ∀ (a : Addr) (h' : Heap) (kA : ClassId), a = h.size → Z.heap.size ≤ a → Ext h h' → Arv Z h' a kA (newarray.typeOf aty) z [] (defaultValue (newarray.typeOf aty)) → Go p l e R s m args below meth c Z Q h' k' n' (mkF m pc' Ls (.ref a :: St))) :
    Go p l e R s m args below meth c Z Q h k n (mkF m pc Ls (.int z :: St)) := by
  subst hp hk hn
  intro T L hE hF X eT
  obtain ⟨T', h2, kA, X', e', E', A', st'⟩ := Jvm.RoadKit.newP X C.hx C.hZ w eT (g := mkF m pc Ls (.int z :: St)) rfl (C.d hd) rfl hz hcap hb hc hl
  obtain ⟨s₂, o, st, r⟩ := K _ h2 kA rfl hE.1 E' (Arv.new A' hz) T' L (ext_trans hE E') hF X' e'
  exact ⟨s₂, o, st' _ st, r⟩
theorem Go.stC (C : Cx p s m meth c code ml rty nm own Z) {a : Addr} {kA : ClassId} {z j x : Int32} {vs : List Value} {dv : Value} (V : Arv Z h a kA .char z vs dv) (hj : ¬ j < 0 ∧ j < z) {i : Nat} (hi : j.toNatClampNeg = i) (hlen : i < vs.length) (ha : Z.heap.size ≤ a)
    (hd : decode code pc = .ok (.castore, 1)) (hp : pc + 1 = pc')
    (K : ∀ h', Wr h h' a j.toNatClampNeg (.int (nar .char x)) → Arv Z h' a kA .char z (vs.set i (.int (nar .char x))) dv → Go p l e R s m args below meth c Z Q h' k n (mkF m pc' Ls St)) :
    Go p l e R s m args below meth c Z Q h k n (mkF m pc Ls (.int x :: .int j :: .ref a :: St)) := by
  subst hp
  intro T L hE hF X eT
  obtain ⟨cl, Ar, q1, S, N, H, G⟩ := V
  obtain ⟨T', h2, X', e', W', st'⟩ := Jvm.RoadKit.stC X C.hx C.hZ eT Ar (j := j) (inb_of S hj) (g := mkF m pc Ls (.int x :: .int j :: .ref a :: St)) rfl rfl (C.d hd)
  obtain ⟨s₂, o, st, r⟩ := K h2 W' (Arv.set Ar q1 S N H G (fits_nar_char _) W' i hi hlen) T' _ (ext_wr hE W' ha) (Fr.snoc X' hF ha) X' e'
  exact ⟨s₂, o, st' _ st, r⟩
/-! ### ends -/
theorem Go.ret {ty : FieldType} (C : Cx p s m meth c code ml (some ty) nm own Z) {w : Value} {i : Instr} (hn : narrow ty w = w)
    (hi : (i = .ireturn ∧ (ty = .int ∨ ty = .boolean ∨ ty = .byte ∨ ty = .char ∨ ty = .short) ∧ ∃ z, w = .int z) ∨ (i = .lreturn ∧ ty = .long ∧ ∃ z, w = .long z) ∨ (i = .dreturn ∧ ty = .double ∧ ∃ z, w = .double z) ∨ (i = .freturn ∧ ty = .float ∧ ∃ z, w = .float z) ∨ (i = .areturn ∧ ty.isReference = true ∧ w.isRef = true))
    (hd : decode code pc = .ok (i, 1)) (hk : k ≤ R.cells) (hl : n ≤ R.slots) (hQ : Q (some w) h) : Go p l e R s m args below meth c Z Q h k n (mkF m pc Ls (w :: St)) := by
  intro T L hE hF X eT
  obtain ⟨fs, hr, hrun, hended, hW, hsame⟩ := X.leave (v := some w) (fun q => by rw [C.hret] at q; cases q) C.hlk
  refine ⟨_, _, retOut X C.hx C.hret hn hi (C.d hd) hr, hrun, hended, _, L, rfl, ⟨?_, ?_, hF⟩, ⟨_, rfl⟩, hW, hsame.mono hk hl⟩
  · show Q (some w) T.heap
    rw [eT]; exact hQ
  · show Ext Z.heap T.heap
    rw [eT]; exact hE
theorem Go.retI (C : Cx p s m meth c code ml (some .int) nm own Z) {z : Int32} (hd : decode code pc = .ok (.ireturn, 1)) (hk : k ≤ R.cells) (hl : n ≤ R.slots) (hQ : Q (some (.int z)) h) : Go p l e R s m args below meth c Z Q h k n (mkF m pc Ls (.int z :: St)) :=
  Go.ret C rfl (Or.inl ⟨rfl, Or.inl rfl, z, rfl⟩) hd hk hl hQ
theorem Go.retA {ty : FieldType} (C : Cx p s m meth c code ml (some ty) nm own Z) {w : Value} (ht : ty.isReference = true) (hw : w.isRef = true) (hn : narrow ty w = w) (hd : decode code pc = .ok (.areturn, 1)) (hk : k ≤ R.cells) (hl : n ≤ R.slots) (hQ : Q (some w) h) : Go p l e R s m args below meth c Z Q h k n (mkF m pc Ls (w :: St)) :=
  Go.ret C hn (Or.inr (Or.inr (Or.inr (Or.inr ⟨rfl, ht, hw⟩)))) hd hk hl hQ
/-- ireturn of a boolean, byte, char or short: what is handed back is narrowed -/
theorem Go.retN {ty : FieldType} (C : Cx p s m meth c code ml (some ty) nm own Z) {z : Int32} (ht : ty = .boolean ∨ ty = .byte ∨ ty = .char ∨ ty = .short) (hd : decode code pc = .ok (.ireturn, 1)) (hk : k ≤ R.cells) (hl : n ≤ R.slots) (hQ : Q (some (.int (nar ty z))) h) : Go p l e R s m args below meth c Z Q h k n (mkF m pc Ls (.int z :: St)) := by
  intro T L hE hF X eT
  obtain ⟨fs, hr, hrun, hended, hW, hsame⟩ := X.leave (v := some (.int (nar ty z))) (fun q => by rw [C.hret] at q; cases q) C.hlk
  refine ⟨_, _, Jvm.RoadKit.retN X C.hx C.hret ht (C.d hd) hr, hrun, hended, _, L, rfl, ⟨?_, ?_, hF⟩, ⟨_, rfl⟩, hW, hsame.mono hk hl⟩
  · show Q (some (.int (nar ty z))) T.heap
    rw [eT]; exact hQ
  · show Ext Z.heap T.heap
    rw [eT]; exact hE
theorem Go.retV (C : Cx p s m meth c code ml none nm own Z) (hd : decode code pc = .ok (.return_, 1)) (hk : k ≤ R.cells) (hl : n ≤ R.slots) (hQ : Q none h) : Go p l e R s m args below meth c Z Q h k n (mkF m pc Ls []) := by
  intro T L hE hF X eT
  obtain ⟨fs, hr, hrun, hended, hW, hsame⟩ := X.leave (v := none) (fun _ => rfl) C.hlk
  refine ⟨_, _, X.returnOut C.hx C.hret (C.d hd) hr, hrun, hended, _, L, rfl, ⟨?_, ?_, hF⟩, ⟨_, rfl⟩, hW, hsame.mono hk hl⟩
  · show Q none T.heap
    rw [eT]; exact hQ
  · show Ext Z.heap T.heap
    rw [eT]; exact hE
/-! ### calls by a contract -/
variable {y : MethodName} {bytes : ByteArray} {ml' : Nat} {ret' : Option FieldType} {rm : Room} {as' : Array Value} {Q' : Option Value → Heap → Prop} {idx W dc ds : Nat} {argsL rest : List Value} {ps : List FieldType} {rt : Option FieldType} {Qr : Option Value → Heap → List Loc → Prop}
/-- what pays a call in this family: the arguments as', the heap h, dc cells and ds slots at the most -/
abbrev Pay (l : Launch) (R : Room) (p : Program) (e : Env) (below : List Frame) (s : State) (args : Array Value) (y : MethodName) (len W : Nat) (as' : Array Value) (h : Heap) (dc ds : Nat) (Qr : Option Value → Heap → List Loc → Prop) : Prop :=
  Back l R p e below s args y len W (fun A a => a = as' ∧ A.U.heap = h ∧ A.cells + dc ≤ R.cells ∧ A.slots + ds ≤ R.slots) (fun A _ v B => ∃ L, Qr v B.U.heap L ∧ B.locs = A.locs ++ L ∧ B.cells = A.cells + dc ∧ B.slots = A.slots + ds)
theorem Pays.pay {len : Nat} (P : Pays l Z y bytes ml' ret' rm as' h Q') (hE : Ext Z.heap h) (hZ : Z.Warmed39 s.vm) (wc : (Jvm.Cond.code y bytes ml' ret').before a0 Z = true) (wz : (Jvm.Cond.initialized y.cls).before a0 Z = true) (hf : rm.frames + 1 ≤ R.frames) (hl : W + (ml' + 11) + rm.locals ≤ R.locals) :
    Pay l R p e below s args y len W as' h rm.cells rm.slots (fun v h' L => Q' v h' ∧ Ext Z.heap h' ∧ Fr Z.heap.size L) := backOf (W := W) (Q := fun v h' L => Q' v h' ∧ Ext Z.heap h' ∧ Fr Z.heap.size L) (P hE []) hZ wc wz hf hl
theorem Go.staticB (C : Cx p s m meth c code ml rty nm own Z) (P : ∀ s', Z.Warmed39 s'.vm → Ext Z.heap h → Pay l R p e below s' args y 3 W as' h dc ds Qr) (hQ : ∀ v h' L, Ext Z.heap h → Qr v h' L → Q' v h' ∧ Ext Z.heap h' ∧ Fr Z.heap.size L) (wl : (Jvm.Cond.methodLink own idx y).before a0 Z = true) (ws : (Jvm.Cond.static y).before a0 Z = true) (wz : (Jvm.Cond.initialized y.cls).before a0 Z = true) (wc : (Jvm.Cond.code y bytes ml' ret').before a0 Z = true)
    (hy : y.cls ≠ "java/lang/invoke/MethodHandle" ∧ y.cls ≠ "java/lang/invoke/VarHandle") (hpd : parseMethodDescriptor y.desc = some ⟨ps, rt⟩) (hlen : argsL.length = ps.length) (has : argsL.toArray = as') (hd : decode code pc = .ok (.invokestatic idx, 3)) (hp : pc + 3 = pc') (hs : Ls.size = ml) (hst : St = argsL.reverse ++ rest)
    (hW : (rest.map fun v => v.category).sum ≤ W) (hk : k + dc = k') (hn : n + ds = n') (hc : k' ≤ R.cells) (hsl : n' ≤ R.slots)
    (K : ∀ v h', Q' v h' → Go p l e R s m args below meth c Z Q h' k' n' (mkF m pc' Ls (v.toList ++ rest))) : Go p l e R s m args below meth c Z Q h k n (mkF m pc Ls St) := by
  subst hp hk hn
  intro T L hE hF X eT
  obtain ⟨v, vm₁, ⟨T', L', k', n'⟩, -, X', ⟨Lc, hq, hL, hk, hn⟩, st'⟩ := Jvm.LawKit.callS X C.hx (y := y) C.hown (mvT C.hZ wl) (mvT C.hZ ws) (mvT C.hZ wz) (mvT C.hZ wc) hy (P s C.hZ hE) (g := mkF m pc Ls St) rfl (hs.trans C.hml.symm) (argsL := argsL) (rest := rest) (lenOf hpd hlen) hst (by show 2 * 0 + _ ≤ _; omega) (C.d hd) (fun _ _ => ⟨has, eT, hc, hsl⟩)
  dsimp only [Pt.U, Pt.locs, Pt.cells, Pt.slots] at X' hL hk hn st' hq
  subst hL hk hn
  obtain ⟨hq, hE', hF'⟩ := hQ _ _ _ hE hq
  obtain ⟨s₂, o, st, r⟩ := K v _ hq T' _ hE' (Fr.app hF hF') X' rfl
  exact ⟨s₂, o, st' _ st, r⟩
/-- a constructor -/
theorem Go.specialB (C : Cx p s m meth c code ml rty nm own Z) {a : Addr} (P : ∀ s', Z.Warmed39 s'.vm → Ext Z.heap h → Pay l R p e below s' args y 3 W as' h dc ds Qr) (hQ : ∀ v h' L, Ext Z.heap h → Qr v h' L → Q' v h' ∧ Ext Z.heap h' ∧ Fr Z.heap.size L) (hy1 : y.name = "<init>") (wl : (Jvm.Cond.methodLink own idx y).before a0 Z = true) (wi : (Jvm.Cond.instanceMethod y).before a0 Z = true) (wc : (Jvm.Cond.code y bytes ml' none).before a0 Z = true)
    (hy : y.cls ≠ "java/lang/invoke/MethodHandle" ∧ y.cls ≠ "java/lang/invoke/VarHandle") (hpd : parseMethodDescriptor y.desc = some ⟨ps, rt⟩) (hlen : argsL.length = ps.length) (has : (.ref a :: argsL).toArray = as') (hd : decode code pc = .ok (.invokespecial idx, 3)) (hp : pc + 3 = pc') (hs : Ls.size = ml) (hst : St = argsL.reverse ++ .ref a :: rest)
    (hW : (rest.map fun v => v.category).sum ≤ W) (hk : k + dc = k') (hn : n + ds = n') (hc : k' ≤ R.cells) (hsl : n' ≤ R.slots)
    (K : ∀ v h', Q' v h' → Go p l e R s m args below meth c Z Q h' k' n' (mkF m pc' Ls (v.toList ++ rest))) : Go p l e R s m args below meth c Z Q h k n (mkF m pc Ls St) := by
  subst hp hk hn
  intro T L hE hF X eT
  obtain ⟨v, vm₁, ⟨T', L', k', n'⟩, -, X', ⟨Lc, hq, hL, hk, hn⟩, st'⟩ := X.specialBack C.hx (y := y) hy1 C.hown (mvT C.hZ wl) (mvT C.hZ wi) (mvT C.hZ wc) hy (P s C.hZ hE) (g := mkF m pc Ls St) rfl (hs.trans C.hml.symm) (Steps.refl _) (a := a) (argsL := argsL) (rest := rest) (lenOf hpd hlen) hst (by show 2 * 0 + _ ≤ _; omega) (C.d hd) (fun _ _ => ⟨has, eT, hc, hsl⟩)
  dsimp only [Pt.U, Pt.locs, Pt.cells, Pt.slots] at X' hL hk hn st' hq
  subst hL hk hn
  obtain ⟨hq, hE', hF'⟩ := hQ _ _ _ hE hq
  obtain ⟨s₂, o, st, r⟩ := K v _ hq T' _ hE' (Fr.app hF hF') X' rfl
  exact ⟨s₂, o, st'.trans st, r⟩
/-- an instance method, on an object of exactly the class cl -/
theorem Go.virtB (C : Cx p s m meth c code ml rty nm own Z) {a : Addr} {cl : String} (P : ∀ s', Z.Warmed39 s'.vm → Ext Z.heap h → Pay l R p e below s' args y 3 W as' h dc ds Qr) (hQ : ∀ v h' L, Ext Z.heap h → Qr v h' L → Q' v h' ∧ Ext Z.heap h' ∧ Fr Z.heap.size L) (E : Exa Z h a cl) (wl : (Jvm.Cond.methodLink own idx y).before a0 Z = true) (wd : (Jvm.Cond.declares y).before a0 Z = true) (wse : (Jvm.Cond.selects cl y y).before a0 Z = true) (wi : (Jvm.Cond.instanceMethod y).before a0 Z = true)
    (hy : y.cls ≠ "java/lang/invoke/MethodHandle" ∧ y.cls ≠ "java/lang/invoke/VarHandle") (hpd : parseMethodDescriptor y.desc = some ⟨ps, rt⟩) (hlen : argsL.length = ps.length) (has : (.ref a :: argsL).toArray = as') (hd : decode code pc = .ok (.invokevirtual idx, 3)) (hp : pc + 3 = pc') (hs : Ls.size = ml) (hst : St = argsL.reverse ++ .ref a :: rest)
    (hW : (rest.map fun v => v.category).sum ≤ W) (hk : k + dc = k') (hn : n + ds = n') (hc : k' ≤ R.cells) (hsl : n' ≤ R.slots)
    (K : ∀ v h', Q' v h' → Go p l e R s m args below meth c Z Q h' k' n' (mkF m pc' Ls (v.toList ++ rest))) : Go p l e R s m args below meth c Z Q h k n (mkF m pc Ls St) := by
  subst hp hk hn
  intro T L hE hF X eT
  obtain ⟨cq, kq, qa, qb, qc⟩ := isOf (T := T) C.hZ eT E
  obtain ⟨v, vm₁, ⟨T', L', k', n'⟩, -, X', ⟨Lc, hq, hL, hk, hn⟩, st'⟩ := X.virtualBack C.hx (y := y) (z := y) C.hown (mvT C.hZ wl) (mvT C.hZ wd) (notFace_of_selects (args := #[]) (mvT C.hZ wse)) (mvT C.hZ wse) (mvT C.hZ wi) hy (P s C.hZ hE) qa qc (g := mkF m pc Ls St) rfl (hs.trans C.hml.symm) (Steps.refl _) (argsL := argsL) (rest := rest) (lenOf hpd hlen) hst (by show 2 * 0 + _ ≤ _; omega) (C.d hd) (fun _ _ => ⟨has, eT, hc, hsl⟩)
  dsimp only [Pt.U, Pt.locs, Pt.cells, Pt.slots] at X' hL hk hn st' hq
  subst hL hk hn
  obtain ⟨hq, hE', hF'⟩ := hQ _ _ _ hE hq
  obtain ⟨s₂, o, st, r⟩ := K v _ hq T' _ hE' (Fr.app hF hF') X' rfl
  exact ⟨s₂, o, st'.trans st, r⟩
theorem Go.static (C : Cx p s m meth c code ml rty nm own Z) (P : Pays l Z y bytes ml' ret' rm as' h Q') (wl : (Jvm.Cond.methodLink own idx y).before a0 Z = true) (ws : (Jvm.Cond.static y).before a0 Z = true) (wz : (Jvm.Cond.initialized y.cls).before a0 Z = true) (wc : (Jvm.Cond.code y bytes ml' ret').before a0 Z = true)
    (hy : y.cls ≠ "java/lang/invoke/MethodHandle" ∧ y.cls ≠ "java/lang/invoke/VarHandle") (hpd : parseMethodDescriptor y.desc = some ⟨ps, rt⟩) (hlen : argsL.length = ps.length) (has : argsL.toArray = as') (hd : decode code pc = .ok (.invokestatic idx, 3)) (hp : pc + 3 = pc') (hs : Ls.size = ml) (hst : St = argsL.reverse ++ rest)
    (hW : (rest.map fun v => v.category).sum ≤ W) (hf : rm.frames + 1 ≤ R.frames) (hl : W + (ml' + 11) + rm.locals ≤ R.locals) (hk : k + rm.cells = k') (hn : n + rm.slots = n') (hc : k' ≤ R.cells) (hsl : n' ≤ R.slots)
    (K : ∀ v h', Q' v h' → Go p l e R s m args below meth c Z Q h' k' n' (mkF m pc' Ls (v.toList ++ rest))) : Go p l e R s m args below meth c Z Q h k n (mkF m pc Ls St) :=
  Go.staticB C (fun s' hZ hE => P.pay hE hZ wc wz hf hl) (fun _ _ _ _ q => q) wl ws wz wc hy hpd hlen has hd hp hs hst hW hk hn hc hsl K
theorem Go.special (C : Cx p s m meth c code ml rty nm own Z) {a : Addr} (P : Pays l Z y bytes ml' none rm as' h Q') (hy1 : y.name = "<init>") (wl : (Jvm.Cond.methodLink own idx y).before a0 Z = true) (wi : (Jvm.Cond.instanceMethod y).before a0 Z = true) (wz : (Jvm.Cond.initialized y.cls).before a0 Z = true) (wc : (Jvm.Cond.code y bytes ml' none).before a0 Z = true)
    (hy : y.cls ≠ "java/lang/invoke/MethodHandle" ∧ y.cls ≠ "java/lang/invoke/VarHandle") (hpd : parseMethodDescriptor y.desc = some ⟨ps, rt⟩) (hlen : argsL.length = ps.length) (has : (.ref a :: argsL).toArray = as') (hd : decode code pc = .ok (.invokespecial idx, 3)) (hp : pc + 3 = pc') (hs : Ls.size = ml) (hst : St = argsL.reverse ++ .ref a :: rest)
    (hW : (rest.map fun v => v.category).sum ≤ W) (hf : rm.frames + 1 ≤ R.frames) (hl : W + (ml' + 11) + rm.locals ≤ R.locals) (hk : k + rm.cells = k') (hn : n + rm.slots = n') (hc : k' ≤ R.cells) (hsl : n' ≤ R.slots)
    (K : ∀ v h', Q' v h' → Go p l e R s m args below meth c Z Q h' k' n' (mkF m pc' Ls (v.toList ++ rest))) : Go p l e R s m args below meth c Z Q h k n (mkF m pc Ls St) :=
  Go.specialB C (fun s' hZ hE => P.pay hE hZ wc wz hf hl) (fun _ _ _ _ q => q) hy1 wl wi wc hy hpd hlen has hd hp hs hst hW hk hn hc hsl K
theorem Go.virt (C : Cx p s m meth c code ml rty nm own Z) {a : Addr} {cl : String} (P : Pays l Z y bytes ml' ret' rm as' h Q') (E : Exa Z h a cl) (wl : (Jvm.Cond.methodLink own idx y).before a0 Z = true) (wd : (Jvm.Cond.declares y).before a0 Z = true) (wse : (Jvm.Cond.selects cl y y).before a0 Z = true) (wi : (Jvm.Cond.instanceMethod y).before a0 Z = true)
    (wz : (Jvm.Cond.initialized y.cls).before a0 Z = true) (wc : (Jvm.Cond.code y bytes ml' ret').before a0 Z = true)
    (hy : y.cls ≠ "java/lang/invoke/MethodHandle" ∧ y.cls ≠ "java/lang/invoke/VarHandle") (hpd : parseMethodDescriptor y.desc = some ⟨ps, rt⟩) (hlen : argsL.length = ps.length) (has : (.ref a :: argsL).toArray = as') (hd : decode code pc = .ok (.invokevirtual idx, 3)) (hp : pc + 3 = pc') (hs : Ls.size = ml) (hst : St = argsL.reverse ++ .ref a :: rest)
    (hW : (rest.map fun v => v.category).sum ≤ W) (hf : rm.frames + 1 ≤ R.frames) (hl : W + (ml' + 11) + rm.locals ≤ R.locals) (hk : k + rm.cells = k') (hn : n + rm.slots = n') (hc : k' ≤ R.cells) (hsl : n' ≤ R.slots)
    (K : ∀ v h', Q' v h' → Go p l e R s m args below meth c Z Q h' k' n' (mkF m pc' Ls (v.toList ++ rest))) : Go p l e R s m args below meth c Z Q h k n (mkF m pc Ls St) :=
  Go.virtB C (fun s' hZ hE => P.pay hE hZ wc wz hf hl) (fun _ _ _ _ q => q) E wl wd wse wi hy hpd hlen has hd hp hs hst hW hk hn hc hsl K
/-! ### more single laws -/
theorem Go.ldcJ (C : Cx p s m meth c code ml rty nm own Z) {ix : Nat} {v : Int64} (w : (Jvm.Cond.constantLong own ix v).before a0 Z = true) (hd : decode code pc = .ok (.ldc2_w ix, 3)) (hp : pc + 3 = pc')
    (K : Go p l e R s m args below meth c Z Q h k n (mkF m pc' Ls (.long v :: St))) : Go p l e R s m args below meth c Z Q h k n (mkF m pc Ls St) := by
  subst hp
  exact Go.plain (fun T L X t q => X.ldc2Long C.hx C.hown (mv C.hZ w) (g := mkF m pc Ls St) rfl (C.d hd) t q) K
theorem Go.cast (C : Cx p s m meth c code ml rty nm own Z) {ix : Nat} {cK : String} {a : Addr} (w : (Jvm.Cond.classLink own ix cK).before a0 Z = true) (F : Ins Z h a cK true) (hd : decode code pc = .ok (.checkcast ix, 3)) (hp : pc + 3 = pc')
    (K : Go p l e R s m args below meth c Z Q h k n (mkF m pc' Ls (.ref a :: St))) : Go p l e R s m args below meth c Z Q h k n (mkF m pc Ls (.ref a :: St)) := by
  subst hp
  exact Go.law0 (fun T L X eT => castY X C.hx C.hZ C.hown w eT F (g := mkF m pc Ls (.ref a :: St)) rfl rfl (C.d hd)) K
theorem Go.castN (C : Cx p s m meth c code ml rty nm own Z) {ix : Nat} (hd : decode code pc = .ok (.checkcast ix, 3)) (hp : pc + 3 = pc')
    (K : Go p l e R s m args below meth c Z Q h k n (mkF m pc' Ls (.null :: St))) : Go p l e R s m args below meth c Z Q h k n (mkF m pc Ls (.null :: St)) := by
  subst hp
  exact Go.plain (fun T L X t q => X.checkcastNull C.hx (g := mkF m pc Ls (.null :: St)) rfl rfl (C.d hd) t q) K
theorem Go.instY (C : Cx p s m meth c code ml rty nm own Z) {ix : Nat} {cK : String} {a : Addr} (w : (Jvm.Cond.classLink own ix cK).before a0 Z = true) (F : Ins Z h a cK true) (hd : decode code pc = .ok (.instanceof ix, 3)) (hp : pc + 3 = pc')
    (K : Go p l e R s m args below meth c Z Q h k n (mkF m pc' Ls (.int 1 :: St))) : Go p l e R s m args below meth c Z Q h k n (mkF m pc Ls (.ref a :: St)) := by
  subst hp
  exact Go.law0 (fun T L X eT => Jvm.RoadKit.instY X C.hx C.hZ C.hown w eT F (g := mkF m pc Ls (.ref a :: St)) rfl rfl (C.d hd)) K
theorem Go.len (C : Cx p s m meth c code ml rty nm own Z) {a : Addr} {kA : ClassId} {ty : FieldType} {z : Int32} {vs : List Value} {dv : Value} (V : Arv Z h a kA ty z vs dv) (hd : decode code pc = .ok (.arraylength, 1)) (hp : pc + 1 = pc')
    (K : Go p l e R s m args below meth c Z Q h k n (mkF m pc' Ls (.int z :: St))) : Go p l e R s m args below meth c Z Q h k n (mkF m pc Ls (.ref a :: St)) := by
  subst hp
  intro T L hE hF X eT
  obtain ⟨cl, Ar, q1, S, N, H, G⟩ := V
  obtain ⟨s₂, o, st, r⟩ := K T L hE hF X eT
  rw [← len_of S N] at st
  exact ⟨s₂, o, X.arraylength C.hx (by rw [eT]; exact Ar.1) (State.isArrayOf_alike C.hZ.alike Ar.2.1) (g := mkF m pc Ls (.ref a :: St)) rfl rfl (C.d hd) _ st, r⟩
theorem Go.caload (C : Cx p s m meth c code ml rty nm own Z) {a : Addr} {kA : ClassId} {z j : Int32} {vs : List Value} {dv w : Value} (V : Arv Z h a kA .char z vs dv) (hj : ¬ j < 0 ∧ j < z) (hv : vs.getD j.toNatClampNeg dv = w) (hd : decode code pc = .ok (.caload, 1)) (hp : pc + 1 = pc')
    (K : Go p l e R s m args below meth c Z Q h k n (mkF m pc' Ls (w :: St))) : Go p l e R s m args below meth c Z Q h k n (mkF m pc Ls (.int j :: .ref a :: St)) := by
  subst hp
  intro T L hE hF X eT
  obtain ⟨cl, Ar, q1, S, N, H, G⟩ := V
  obtain ⟨s₂, o, st, r⟩ := K T L hE hF X eT
  exact ⟨s₂, o, X.caload C.hx (j := j) (v := w) (by rw [eT]; exact Ar.1) (State.isArrayOf_alike C.hZ.alike Ar.2.1) Ar.2.2 (inb_of S hj) (H.at (inb_of S hj) hv) (g := mkF m pc Ls (.int j :: .ref a :: St)) rfl rfl (C.d hd) _ st, r⟩
theorem Go.baload (C : Cx p s m meth c code ml rty nm own Z) {a : Addr} {kA : ClassId} {z j : Int32} {vs : List Value} {dv w : Value} (V : Arv Z h a kA .byte z vs dv) (hj : ¬ j < 0 ∧ j < z) (hv : vs.getD j.toNatClampNeg dv = w) (hd : decode code pc = .ok (.baload, 1)) (hp : pc + 1 = pc')
    (K : Go p l e R s m args below meth c Z Q h k n (mkF m pc' Ls (w :: St))) : Go p l e R s m args below meth c Z Q h k n (mkF m pc Ls (.int j :: .ref a :: St)) := by
  subst hp
  intro T L hE hF X eT
  obtain ⟨cl, Ar, q1, S, N, H, G⟩ := V
  obtain ⟨s₂, o, st, r⟩ := K T L hE hF X eT
  exact ⟨s₂, o, X.baloadBytes C.hx (j := j) (v := w) (by rw [eT]; exact Ar.1) (State.isArrayOf_alike C.hZ.alike Ar.2.1) Ar.2.2 (inb_of S hj) (H.at (inb_of S hj) hv) (g := mkF m pc Ls (.int j :: .ref a :: St)) rfl rfl (C.d hd) _ st, r⟩
theorem Go.aaload (C : Cx p s m meth c code ml rty nm own Z) {a : Addr} {kA : ClassId} {ty : FieldType} {z j : Int32} {vs : List Value} {dv w : Value} (V : Arv Z h a kA ty z vs dv) (hty : ty.isReference = true) (hj : ¬ j < 0 ∧ j < z) (hv : vs.getD j.toNatClampNeg dv = w) (hd : decode code pc = .ok (.aaload, 1)) (hp : pc + 1 = pc')
    (K : Go p l e R s m args below meth c Z Q h k n (mkF m pc' Ls (w :: St))) : Go p l e R s m args below meth c Z Q h k n (mkF m pc Ls (.int j :: .ref a :: St)) := by
  subst hp
  intro T L hE hF X eT
  obtain ⟨cl, Ar, q1, S, N, H, G⟩ := V
  obtain ⟨s₂, o, st, r⟩ := K T L hE hF X eT
  exact ⟨s₂, o, X.aaload C.hx (j := j) (v := w) (by rw [eT]; exact Ar.1) (State.isArrayOf_alike C.hZ.alike Ar.2.1) hty Ar.2.2 (inb_of S hj) (H.at (inb_of S hj) hv) (g := mkF m pc Ls (.int j :: .ref a :: St)) rfl rfl (C.d hd) _ st, r⟩
theorem Go.stB (C : Cx p s m meth c code ml rty nm own Z) {a : Addr} {kA : ClassId} {z j x : Int32} {vs : List Value} {dv : Value} (V : Arv Z h a kA .byte z vs dv) (hj : ¬ j < 0 ∧ j < z) {i : Nat} (hi : j.toNatClampNeg = i) (hlen : i < vs.length) (ha : Z.heap.size ≤ a)
    (hd : decode code pc = .ok (.bastore, 1)) (hp : pc + 1 = pc')
    (K : ∀ h', Wr h h' a j.toNatClampNeg (.int (nar .byte x)) → Arv Z h' a kA .byte z (vs.set i (.int (nar .byte x))) dv → Go p l e R s m args below meth c Z Q h' k n (mkF m pc' Ls St)) :
    Go p l e R s m args below meth c Z Q h k n (mkF m pc Ls (.int x :: .int j :: .ref a :: St)) := by
  subst hp
  intro T L hE hF X eT
  obtain ⟨cl, Ar, q1, S, N, H, G⟩ := V
  obtain ⟨T', h2, X', e', W', st'⟩ := Jvm.RoadKit.stB X C.hx C.hZ eT Ar (j := j) (inb_of S hj) (g := mkF m pc Ls (.int x :: .int j :: .ref a :: St)) rfl rfl (C.d hd)
  obtain ⟨s₂, o, st, r⟩ := K h2 W' (Arv.set Ar q1 S N H G (fits_nar_byte _) W' i hi hlen) T' _ (ext_wr hE W' ha) (Fr.snoc X' hF ha) X' e'
  exact ⟨s₂, o, st' _ st, r⟩
theorem Go.stR (C : Cx p s m meth c code ml rty nm own Z) {a : Addr} {kA : ClassId} {ty : FieldType} {z j : Int32} {v : Value} {vs : List Value} {dv : Value} (V : Arv Z h a kA ty z vs dv) (hty : ty.isReference = true) (hv : v.isRef = true) (F : Sto Z h a v) (hj : ¬ j < 0 ∧ j < z) {i : Nat} (hi : j.toNatClampNeg = i) (hlen : i < vs.length) (ha : Z.heap.size ≤ a)
    (hd : decode code pc = .ok (.aastore, 1)) (hp : pc + 1 = pc')
    (K : ∀ h', Wr h h' a j.toNatClampNeg v → Arv Z h' a kA ty z (vs.set i v) dv → Go p l e R s m args below meth c Z Q h' k n (mkF m pc' Ls St)) :
    Go p l e R s m args below meth c Z Q h k n (mkF m pc Ls (v :: .int j :: .ref a :: St)) := by
  subst hp
  intro T L hE hF X eT
  obtain ⟨cl, Ar, q1, S, N, H, G⟩ := V
  obtain ⟨T', h2, X', e', W', st'⟩ := Jvm.RoadKit.stR X C.hx C.hZ eT Ar (j := j) (inb_of S hj) hty F (g := mkF m pc Ls (v :: .int j :: .ref a :: St)) rfl rfl (C.d hd)
  obtain ⟨s₂, o, st, r⟩ := K h2 W' (Arv.set Ar q1 S N H G (fitR' hty hv) W' i hi hlen) T' _ (ext_wr hE W' ha) (Fr.snoc X' hF ha) X' e'
  exact ⟨s₂, o, st' _ st, r⟩
theorem Go.newR (C : Cx p s m meth c code ml rty nm own Z) {cC : String} {ix : Nat} (w1 : (Jvm.Cond.classLink own ix cC).before a0 Z = true) (w2 : (Jvm.Cond.arrayOver (.object cC)).before a0 Z = true) {z : Int32} (hz : ¬ z < 0) {cap : Nat} (hcap : z.toNatClampNeg ≤ cap) (hb : cap * 8 ≤ 536870912) (hd : decode code pc = .ok (.anewarray ix, 3)) (hp : pc + 3 = pc')
    (hk : k + 1 = k') (hn : n + cap = n') (hc : k' ≤ R.cells) (hl : n' ≤ R.slots)
    (K : ∀ (a : Addr) (h' : Heap) (kA : ClassId), a = h.size → Z.heap.size ≤ a → Ext h h' → Ovr Z kA cC → Arv Z h' a kA (.object cC) z [] .null → Go p l e R s m args below meth c Z Q h' k' n' (mkF m pc' Ls (.ref a :: St))) :
    Go p l e R s m args below meth c Z Q h k n (mkF m pc Ls (.int z :: St)) := by
  subst hp hk hn
  intro T L hE hF X eT
  obtain ⟨T', h2, kA, X', e', E', A', O', st'⟩ := Jvm.RoadKit.newR X C.hx C.hZ C.hown w1 w2 eT (g := mkF m pc Ls (.int z :: St)) rfl (C.d hd) rfl hz hcap hb hc hl
  obtain ⟨s₂, o, st, r⟩ := K _ h2 kA rfl hE.1 E' O' (Arv.new A' hz) T' L (ext_trans hE E') hF X' e'
  exact ⟨s₂, o, st' _ st, r⟩
/-- invokevirtual of a private method -/
theorem Go.privB (C : Cx p s m meth c code ml rty nm own Z) {a : Addr} {cl : String} (P : ∀ s', Z.Warmed39 s'.vm → Ext Z.heap h → Pay l R p e below s' args y 3 W as' h dc ds Qr) (hQ : ∀ v h' L, Ext Z.heap h → Qr v h' L → Q' v h' ∧ Ext Z.heap h' ∧ Fr Z.heap.size L) (E : Exa Z h a cl) (wl : (Jvm.Cond.methodLink own idx y).before a0 Z = true) (wi : (Jvm.Cond.instanceMethod y).before a0 Z = true) (wse : (Jvm.Cond.selects y.cls y y).before a0 Z = true) (wp : (Jvm.Cond.privateMethod y).before a0 Z = true)
    (wc : (Jvm.Cond.code y bytes ml' ret').before a0 Z = true)
    (hy : y.cls ≠ "java/lang/invoke/MethodHandle" ∧ y.cls ≠ "java/lang/invoke/VarHandle") (hpd : parseMethodDescriptor y.desc = some ⟨ps, rt⟩) (hlen : argsL.length = ps.length) (has : (.ref a :: argsL).toArray = as') (hd : decode code pc = .ok (.invokevirtual idx, 3)) (hp : pc + 3 = pc') (hs : Ls.size = ml) (hst : St = argsL.reverse ++ .ref a :: rest)
    (hW : (rest.map fun v => v.category).sum ≤ W) (hk : k + dc = k') (hn : n + ds = n') (hc : k' ≤ R.cells) (hsl : n' ≤ R.slots)
    (K : ∀ v h', Q' v h' → Go p l e R s m args below meth c Z Q h' k' n' (mkF m pc' Ls (v.toList ++ rest))) : Go p l e R s m args below meth c Z Q h k n (mkF m pc Ls St) := by
  subst hp hk hn
  intro T L hE hF X eT
  obtain ⟨cq, q1, q2⟩ := E.cell
  obtain ⟨v, vm₁, ⟨T', L', k', n'⟩, -, X', ⟨Lc, hq, hL, hk, hn⟩, st'⟩ := X.privateBack C.hx (y := y) C.hown (mvT C.hZ wl) (mvT C.hZ wi) (mvT C.hZ wse) (Cond.privateMethod_at (mvP C.hZ wp (args := #[]))) (mvT C.hZ wc) hy (P s C.hZ hE) (g := mkF m pc Ls St) rfl (hs.trans C.hml.symm) (Steps.refl _) (a := a) (by rw [eT]; exact q1) q2 (argsL := argsL) (rest := rest) (lenOf hpd hlen) hst (by show 2 * 0 + _ ≤ _; omega) (C.d hd) (fun _ _ => ⟨has, eT, hc, hsl⟩)
  dsimp only [Pt.U, Pt.locs, Pt.cells, Pt.slots] at X' hL hk hn st' hq
  subst hL hk hn
  obtain ⟨hq, hE', hF'⟩ := hQ _ _ _ hE hq
  obtain ⟨s₂, o, st, r⟩ := K v _ hq T' _ hE' (Fr.app hF hF') X' rfl
  exact ⟨s₂, o, st'.trans st, r⟩
/-- invokeinterface, the interface's own method -/
theorem Go.ifaceB (C : Cx p s m meth c code ml rty nm own Z) {a : Addr} {cl : String} {xi : MethodName} {cnt : Nat} (P : ∀ s', Z.Warmed39 s'.vm → Ext Z.heap h → Pay l R p e below s' args y 5 W as' h dc ds Qr) (hQ : ∀ v h' L, Ext Z.heap h → Qr v h' L → Q' v h' ∧ Ext Z.heap h' ∧ Fr Z.heap.size L) (E : Exa Z h a cl) (wl : (Jvm.Cond.methodLink own idx xi).before a0 Z = true) (wd : (Jvm.Cond.declares xi).before a0 Z = true) (wf : (Jvm.Cond.interfaceMethod xi.cls xi.cls xi.name xi.desc).before a0 Z = true) (wse : (Jvm.Cond.selects cl xi y).before a0 Z = true)
    (wi : (Jvm.Cond.instanceMethod y).before a0 Z = true) (wpu : (Jvm.Cond.publicMethod y).before a0 Z = true) (wu : (Jvm.Cond.unhidden cl xi.name xi.desc).before a0 Z = true) (wca : (Jvm.Cond.castable cl xi.cls).before a0 Z = true)
    (hy : xi.cls ≠ "java/lang/invoke/MethodHandle" ∧ xi.cls ≠ "java/lang/invoke/VarHandle") (hpd : parseMethodDescriptor xi.desc = some ⟨ps, rt⟩) (hlen : argsL.length = ps.length) (has : (.ref a :: argsL).toArray = as') (hd : decode code pc = .ok (.invokeinterface idx cnt, 5)) (hp : pc + 5 = pc') (hs : Ls.size = ml) (hst : St = argsL.reverse ++ .ref a :: rest)
    (hW : (rest.map fun v => v.category).sum ≤ W) (hk : k + dc = k') (hn : n + ds = n') (hc : k' ≤ R.cells) (hsl : n' ≤ R.slots)
    (K : ∀ v h', Q' v h' → Go p l e R s m args below meth c Z Q h' k' n' (mkF m pc' Ls (v.toList ++ rest))) : Go p l e R s m args below meth c Z Q h k n (mkF m pc Ls St) := by
  subst hp hk hn
  intro T L hE hF X eT
  obtain ⟨cq, kq, qa, qb, qc⟩ := isOf (T := T) C.hZ eT E
  obtain ⟨v, vm₁, ⟨T', L', k', n'⟩, -, X', ⟨Lc, hq, hL, hk, hn⟩, st'⟩ := X.interfaceBack C.hx (xi := xi) (y := y) C.hown (mvT C.hZ wl) (mvT C.hZ wd) (mvT C.hZ wf (faceOk hy)) (mvT C.hZ wse) (mvT C.hZ wi) (mvT C.hZ wpu) (mvT C.hZ wu) (mvT C.hZ wca) hy (P s C.hZ hE) qa qb qc (g := mkF m pc Ls St) rfl (hs.trans C.hml.symm) (Steps.refl _) (argsL := argsL) (rest := rest) (lenOf hpd hlen) hst (by show 2 * 0 + _ ≤ _; omega) (C.d hd) (fun _ _ => ⟨has, eT, hc, hsl⟩)
  dsimp only [Pt.U, Pt.locs, Pt.cells, Pt.slots] at X' hL hk hn st' hq
  subst hL hk hn
  obtain ⟨hq, hE', hF'⟩ := hQ _ _ _ hE hq
  obtain ⟨s₂, o, st, r⟩ := K v _ hq T' _ hE' (Fr.app hF hF') X' rfl
  exact ⟨s₂, o, st'.trans st, r⟩
end Core
end Jvm.Own
namespace Jvm.Own
open Sem ClassFile Op Lib Jvm.Stand Jvm.Free Jvm.LawKit Jvm.RoadKit
/-- a String of these chars, each 0 to 255, its bytes in an array of its own -/
def Str (Z : State) (h : Heap) (a : Addr) (cs : List Int32) : Prop := ∃ (t : Addr) (kb : ClassId), ¬ t = a ∧ Exa Z h a "java/lang/String" ∧ Fld Z h a "java/lang/String" "coder" "B" (.int 0) ∧ Fld Z h a "java/lang/String" "value" "[B" (.ref t) ∧
  Arv Z h t kb .byte (Int32.ofNat cs.length) ((cs.map fun c => c.toInt8.toInt32).map Value.int) (.int 0) ∧ (∀ c ∈ cs, ¬ c < 0 ∧ ¬ (255 : Int32) < c) ∧ cs.length ≤ 4000
theorem Str.ext {Z : State} {h h' : Heap} {a : Addr} {cs : List Int32} (S : Str Z h a cs) (E : Ext h h') : Str Z h' a cs := by
  obtain ⟨t, kb, h0, h1, h2, h3, h4, r⟩ := S
  exact ⟨t, kb, h0, h1.ext E, h2.ext E, h3.ext E, h4.ext E, r⟩
theorem Str.exa {Z : State} {h : Heap} {a : Addr} {cs : List Int32} (S : Str Z h a cs) : Exa Z h a "java/lang/String" := by obtain ⟨t, kb, -, h1, -⟩ := S; exact h1
theorem Str.lt {Z : State} {h : Heap} {a : Addr} {cs : List Int32} (S : Str Z h a cs) : a < h.size := S.exa.lt
theorem mask_rng (x : Int32) : ¬ (x &&& (255 : Int32)) < 0 ∧ ¬ (255 : Int32) < (x &&& (255 : Int32)) := by
  have h := c_mask x 255 8 (by decide) (by decide)
  have e0 : (0 : Int32).toInt = 0 := rfl
  have e1 : (255 : Int32).toInt = 255 := rfl
  simp only [Int32.lt_iff_toInt_lt, e0, e1, h]
  constructor <;> omega
/-- a char of one byte is itself -/
theorem i2c_id {x : Int32} (h : ¬ x < 0 ∧ ¬ (255 : Int32) < x) : x.toUInt32.toUInt16.toUInt32.toInt32 = x := by
  have h1 := c_i2c x
  have e0 : (0 : Int32).toInt = 0 := rfl
  have e1 : (255 : Int32).toInt = 255 := rfl
  simp only [Int32.lt_iff_toInt_lt, e0, e1] at h
  rw [← Int32.toInt_inj]; omega
theorem nar_i2c_mask (x : Int32) : nar .char ((x &&& (255 : Int32)).toUInt32.toUInt16.toUInt32.toInt32) = x &&& (255 : Int32) := by
  show ((x &&& (255 : Int32)).toUInt32.toUInt16.toUInt32.toInt32).toUInt32.toUInt16.toUInt32.toInt32 = _
  rw [i2c_id (mask_rng x), i2c_id (mask_rng x)]
end Jvm.Own
/- laws to paste: Road.backV (cut by pick.py; bodies as the Statement names them) -/
namespace Jvm.Pilot.@@N@@
namespace StrChars
open Jvm Sem ClassFile Op Lib Jvm.Stand Jvm.Free.XT Jvm.Free.ALB Jvm.Free.JM Jvm.Free
open Jvm.Lib.Cold (StaticIs)
/-- a char array whose places are chars -/
def Ch (a : Addr) (A : Cell) (U : State) : Prop := Arr .char a A U ∧ Typed .char A
theorem Ch.mv {a : Addr} {A : Cell} {U U' : State} (h : Ch a A U) (hal : U.vm.Alike U'.vm) (hh : U'.heap = U.heap) : Ch a A U' := ⟨h.1.mv hal hh, h.2⟩
theorem Ch.keep {a : Addr} {A : Cell} {U U' : State} (h : Ch a A U) (hal : U.vm.Alike U'.vm) (hk : U'.heap[a]? = some A) : Ch a A U' := ⟨h.1.keep hal hk, h.2⟩
/-- what place i of a char[]'s cell holds -/
def cv (A : Cell) (i : Nat) : Int32 := match A.slots[i]? with | some (.int x) => x | _ => 0
theorem Ch.get {a : Addr} {A : Cell} {U : State} (h : Ch a A U) {i : Nat} (hi : i < A.slots.size) : A.slots[i]? = some (.int (cv A i)) := by
  have e := Array.getElem?_eq_getElem hi
  have f := h.2 i _ e
  unfold cv; rw [e]
  generalize A.slots[i] = v at f
  cases v <;> simp [fits] at f ⊢
/-- the byte that i2b leaves of a char -/
def lo8 (x : Int32) : Int32 := x.toInt8.toInt32
theorem fits_lo8 (y : Int32) : fits .byte (.int (lo8 y)) = true := by
  have h1 := y.toInt8.le_toInt
  have h2 := y.toInt8.toInt_lt
  simp only [lo8, fits, Bool.and_eq_true, decide_eq_true_eq, Int32.le_iff_toInt_le, Int8.toInt_toInt32, show (-128 : Int32).toInt = -128 from by decide, show (127 : Int32).toInt = 127 from by decide]
  omega
/-- A' is A but that each place j of lo .. hi - 1 holds f j -/
def Laid (A A' : Cell) (lo hi : Nat) (f : Nat → Value) : Prop := A'.cls = A.cls ∧ A'.vm = A.vm ∧ A'.slots.size = A.slots.size ∧ ∀ i, A'.slots[i]? = if lo ≤ i ∧ i < hi then some (f i) else A.slots[i]?
theorem Laid.zero (A : Cell) (lo : Nat) (f : Nat → Value) : Laid A A lo (lo + 0) f := ⟨rfl, rfl, rfl, fun i => by rw [if_neg (by omega)]⟩
theorem Laid.step {A Ak : Cell} {lo k : Nat} {f : Nat → Value} {v : Value} (h : Laid A Ak lo k f) (hlo : lo ≤ k) (hk : k < Ak.slots.size) (hv : v = f k) : Laid A (Ak.setSlot k v) lo (k + 1) f := by
  refine ⟨h.1, h.2.1, by simpa [Cell.setSlot] using h.2.2.1, fun i => ?_⟩
  by_cases e : k = i
  · subst e; rw [Cell.slots_setSlot_self v hk, if_pos (by omega), hv]
  · rw [Cell.slots_setSlot_ne v e, h.2.2.2 i]
    by_cases q : lo ≤ i ∧ i < k
    · rw [if_pos q, if_pos (by omega)]
    · rw [if_neg q, if_neg (by omega)]
def U16 : String := "java/lang/StringUTF16"
namespace Cmp5
def yN : MethodName := ⟨"java/lang/StringUTF16", "compress", "([CI[BII)I"⟩
abbrev yB : ByteArray := jdk_52_method_21_code
theorem d0 : decode yB 0 = .ok (.iconst 0, 1) := by decide +kernel
theorem d1 : decode yB 1 = .ok (.istore 5, 2) := by decide +kernel
theorem d3 : decode yB 3 = .ok (.iload 5, 2) := by decide +kernel
theorem d5 : decode yB 5 = .ok (.iload 4, 2) := by decide +kernel
theorem d7 : decode yB 7 = .ok (.if_icmp (.ge) 37, 3) := by decide +kernel
theorem d10 : decode yB 10 = .ok (.aload_n 0, 1) := by decide +kernel
theorem d11 : decode yB 11 = .ok (.iload_n 1, 1) := by decide +kernel
theorem d12 : decode yB 12 = .ok (.caload, 1) := by decide +kernel
theorem d13 : decode yB 13 = .ok (.istore 6, 2) := by decide +kernel
theorem d15 : decode yB 15 = .ok (.iload 6, 2) := by decide +kernel
theorem d17 : decode yB 17 = .ok (.sipush 255, 3) := by decide +kernel
theorem d20 : decode yB 20 = .ok (.if_icmp (.le) 6, 3) := by decide +kernel
theorem d26 : decode yB 26 = .ok (.aload_n 2, 1) := by decide +kernel
theorem d27 : decode yB 27 = .ok (.iload_n 3, 1) := by decide +kernel
theorem d28 : decode yB 28 = .ok (.iload 6, 2) := by decide +kernel
theorem d30 : decode yB 30 = .ok (.i2b, 1) := by decide +kernel
theorem d31 : decode yB 31 = .ok (.bastore, 1) := by decide +kernel
theorem d32 : decode yB 32 = .ok (.iinc 1 1, 3) := by decide +kernel
theorem d35 : decode yB 35 = .ok (.iinc 3 1, 3) := by decide +kernel
theorem d38 : decode yB 38 = .ok (.iinc 5 1, 3) := by decide +kernel
theorem d41 : decode yB 41 = .ok (.goto (-38), 3) := by decide +kernel
theorem d44 : decode yB 44 = .ok (.iload 4, 2) := by decide +kernel
theorem d46 : decode yB 46 = .ok (.ireturn, 1) := by decide +kernel
def site : List Cond := []
def tab : Cond := tabOf yN yB 7 (some .int) site
def P (b : Addr) (A : Cell) (d : Addr) (B : Cell) (o q len : Nat) (args : Array Value) (s : State) : Prop := args = #[.ref b, .int (Int32.ofNat o), .ref d, .int (Int32.ofNat q), .int (Int32.ofNat len)] ∧ Ch b A s ∧ Arr .byte d B s ∧ b ≠ d ∧ o + len ≤ A.slots.size ∧ q + len ≤ B.slots.size ∧ ∀ i, i < len → ¬ 255 < cv A (o + i)
def E (b : Addr) (A : Cell) (d : Addr) (B : Cell) (o q len : Nat) (r : Option Value) (s u : State) : Prop := r = some (.int (Int32.ofNat len)) ∧ ∃ B', Put d B' s u ∧ Laid B B' q (q + len) (fun j => Value.int (lo8 (cv A (o + (j - q)))))
/-- no char of the range above 255: len; the places written hold each char's low byte -/
theorem law (l : Launch) (b : Addr) (A : Cell) (d : Addr) (B : Cell) (o q len : Nat) : Law l yN 5 5 0 0 yB 7 (some .int) site (P b A d B o q len) (E b A d B o q len) (copyLocs d q len) 0 0 := by
  refine Law.of_walk (plainFor_of_name (by decide +kernel)) (by decide +kernel) (by decide +kernel) (by decide) (fun _ _ h => by rw [h.1]; rfl) (fun _ U U' hal hh h => ⟨h.1, h.2.1.mv hal hh, h.2.2.1.mv hal hh, h.2.2.2⟩) (fun r U U' V V' h1 hal h2 h => ⟨h.1, h.2.elim fun B' q => ⟨B', q.1.mv h1 h2, q.2⟩⟩) ?_
  intro p e s m args below meth c s₁ X0 hexec hbytes hml hret hlk hnm hown hh0 W hP
  obtain ⟨rfl, hA, hB, hne, l1, l2, hp⟩ := hP
  have c1 : Steps p.tables e below (s₁.setTop (entryFrame m #[.ref b, .int (Int32.ofNat o), .ref d, .int (Int32.ofNat q), .int (Int32.ofNat len)] 7)) (s₁.setTop (mkF m 0 #[.val (.ref b), .val (.int (Int32.ofNat o)), .val (.ref d), .val (.int (Int32.ofNat q)), .val (.int (Int32.ofNat len)), .unset, .unset] [])) := entry rfl
  have hA0 := hA.1.mv X0.warmed.alike hh0
  have hB0 := hB.mv X0.warmed.alike hh0
  have a31 := hA.1.2.2.2
  have c2 : Steps p.tables e below (s₁.setTop (entryFrame m #[.ref b, .int (Int32.ofNat o), .ref d, .int (Int32.ofNat q), .int (Int32.ofNat len)] 7)) (s₁.setTop (mkF m 3 #[.val (.ref b), .val (.int (Int32.ofNat o)), .val (.ref d), .val (.int (Int32.ofNat q)), .val (.int (Int32.ofNat len)), .val (.int 0), .unset] [])) := c1.trans (by
    refine iconstV X0.here hexec rfl 0 (hb hbytes d0) (by decide) ?_
    refine XS.istore X0.here hexec rfl (hb hbytes d1) rfl rfl ?_
    exact Steps.refl _)
  have loop : ∀ (r i : Nat), i + r = len → ∀ (z : Slot), (z = .unset ∨ ∃ w, z = .val w ∧ w.category = 1) → ∀ (Tl : State) (Bk : Cell), Stand p l e { frames := 0, locals := 0, cells := 0, slots := 0 } s m #[.ref b, .int (Int32.ofNat o), .ref d, .int (Int32.ofNat q), .int (Int32.ofNat len)] below meth c Tl ([] ++ copyLocs d q i) 0 0 → Put d Bk s₁ Tl → Laid B Bk q (q + i) (fun j => Value.int (lo8 (cv A (o + (j - q))))) →
      Steps p.tables e below (s₁.setTop (entryFrame m #[.ref b, .int (Int32.ofNat o), .ref d, .int (Int32.ofNat q), .int (Int32.ofNat len)] 7)) (Tl.setTop (mkF m 3 #[.val (.ref b), .val (.int (Int32.ofNat (o + i))), .val (.ref d), .val (.int (Int32.ofNat (q + i))), .val (.int (Int32.ofNat len)), .val (.int (Int32.ofNat i)), z] [])) → ∃ (T' : State) (B' : Cell) (z' : Slot), Stand p l e { frames := 0, locals := 0, cells := 0, slots := 0 } s m #[.ref b, .int (Int32.ofNat o), .ref d, .int (Int32.ofNat q), .int (Int32.ofNat len)] below meth c T' ([] ++ copyLocs d q len) 0 0 ∧ Put d B' s₁ T' ∧ Laid B B' q (q + len) (fun j => Value.int (lo8 (cv A (o + (j - q))))) ∧
      Steps p.tables e below (s₁.setTop (entryFrame m #[.ref b, .int (Int32.ofNat o), .ref d, .int (Int32.ofNat q), .int (Int32.ofNat len)] 7)) (T'.setTop (mkF m 3 #[.val (.ref b), .val (.int (Int32.ofNat (o + len))), .val (.ref d), .val (.int (Int32.ofNat (q + len))), .val (.int (Int32.ofNat len)), .val (.int (Int32.ofNat len)), z'] [])) := by
    intro r
    induction r with
    | zero =>
      intro i hi z hz Tl Bk Xl pl fl cl
      have hil : i = len := by omega
      rw [hil] at Xl fl cl
      exact ⟨Tl, Bk, z, Xl, pl, fl, cl⟩
    | succ r ih =>
      intro i hi z hz Tl Bk Xl pl fl cl
      have all := X0.warmed.alike.symm.trans Xl.warmed.alike
      have hAl := hA0.keep all (pl.other hne hA0.1)
      have hBk := hB0.like all pl.1 fl.1 fl.2.1 fl.2.2.1
      have hlt : q + i < Bk.slots.size := by rw [fl.2.2.1]; omega
      have c3 : Steps p.tables e below (s₁.setTop (entryFrame m #[.ref b, .int (Int32.ofNat o), .ref d, .int (Int32.ofNat q), .int (Int32.ofNat len)] 7)) (Tl.setTop (mkF m 12 #[.val (.ref b), .val (.int (Int32.ofNat (o + i))), .val (.ref d), .val (.int (Int32.ofNat (q + i))), .val (.int (Int32.ofNat len)), .val (.int (Int32.ofNat i)), z] [.int (Int32.ofNat (o + i)), .ref b])) := cl.trans (by
        refine XS.iload Xl.here hexec rfl (hb hbytes d3) rfl ?_
        refine XS.iload Xl.here hexec rfl (hb hbytes d5) rfl ?_
        refine XS.icmpNo Xl.here hexec rfl (hb hbytes d7) rfl (ii_ge_f (lt32 (by omega) (by omega))) ?_
        refine XS.aloadN Xl.here hexec rfl (hb hbytes d10) rfl rfl ?_
        refine XS.iloadN Xl.here hexec rfl (hb hbytes d11) rfl ?_
        exact Steps.refl _)
      have c4 : Steps p.tables e below (s₁.setTop (entryFrame m #[.ref b, .int (Int32.ofNat o), .ref d, .int (Int32.ofNat q), .int (Int32.ofNat len)] 7)) (Tl.setTop (mkF m 13 #[.val (.ref b), .val (.int (Int32.ofNat (o + i))), .val (.ref d), .val (.int (Int32.ofNat (q + i))), .val (.int (Int32.ofNat len)), .val (.int (Int32.ofNat i)), z] [.int (cv A (o + i))])) := c3.trans (by
        refine Xl.aget hexec hAl rfl (hA.get (i := o + i) (by omega)) rfl rfl (hb hbytes d12) ?_
        exact Steps.refl _)
      have c5 : Steps p.tables e below (s₁.setTop (entryFrame m #[.ref b, .int (Int32.ofNat o), .ref d, .int (Int32.ofNat q), .int (Int32.ofNat len)] 7)) (Tl.setTop (mkF m 15 #[.val (.ref b), .val (.int (Int32.ofNat (o + i))), .val (.ref d), .val (.int (Int32.ofNat (q + i))), .val (.int (Int32.ofNat len)), .val (.int (Int32.ofNat i)), .val (.int (cv A (o + i)))] [])) := c4.trans (by
        refine XS.istoreS Xl.here hexec rfl (hb hbytes d13) rfl rfl hz ?_
        exact Steps.refl _)
      have c6 : Steps p.tables e below (s₁.setTop (entryFrame m #[.ref b, .int (Int32.ofNat o), .ref d, .int (Int32.ofNat q), .int (Int32.ofNat len)] 7)) (Tl.setTop (mkF m 31 #[.val (.ref b), .val (.int (Int32.ofNat (o + i))), .val (.ref d), .val (.int (Int32.ofNat (q + i))), .val (.int (Int32.ofNat len)), .val (.int (Int32.ofNat i)), .val (.int (cv A (o + i)))] [.int (lo8 (cv A (o + i))), .int (Int32.ofNat (q + i)), .ref d])) := c5.trans (by
        refine XS.iload Xl.here hexec rfl (hb hbytes d15) rfl ?_
        refine sipushV Xl.here hexec rfl 255 (hb hbytes d17) (by decide) ?_
        refine XS.icmpYes Xl.here hexec rfl (pc0 := 20) rfl (hb hbytes d20) rfl (ii_le_t (hp i (by omega))) (by decide) rfl ?_
        refine XS.aloadN Xl.here hexec rfl (hb hbytes d26) rfl rfl ?_
        refine XS.iloadN Xl.here hexec rfl (hb hbytes d27) rfl ?_
        refine XS.iload Xl.here hexec rfl (hb hbytes d28) rfl ?_
        refine i2b Xl.here hexec rfl (hb hbytes d30) rfl ?_
        exact Steps.refl _)
      obtain ⟨T7, X7, p7, st7⟩ := Xl.aput hexec hBk rfl hlt rfl (fits_lo8 (cv A (o + i))) (g := (mkF m 31 #[.val (.ref b), .val (.int (Int32.ofNat (o + i))), .val (.ref d), .val (.int (Int32.ofNat (q + i))), .val (.int (Int32.ofNat len)), .val (.int (Int32.ofNat i)), .val (.int (cv A (o + i)))] [.int (lo8 (cv A (o + i))), .int (Int32.ofNat (q + i)), .ref d])) rfl (rest := []) rfl (hb hbytes d31)
      have c8 : Steps p.tables e below (s₁.setTop (entryFrame m #[.ref b, .int (Int32.ofNat o), .ref d, .int (Int32.ofNat q), .int (Int32.ofNat len)] 7)) (T7.setTop (mkF m 32 #[.val (.ref b), .val (.int (Int32.ofNat (o + i))), .val (.ref d), .val (.int (Int32.ofNat (q + i))), .val (.int (Int32.ofNat len)), .val (.int (Int32.ofNat i)), .val (.int (cv A (o + i)))] [])) := c6.trans (st7 _ (Steps.refl _))
      have c9 : Steps p.tables e below (s₁.setTop (entryFrame m #[.ref b, .int (Int32.ofNat o), .ref d, .int (Int32.ofNat q), .int (Int32.ofNat len)] 7)) (T7.setTop (mkF m 3 #[.val (.ref b), .val (.int (Int32.ofNat (o + i) + 1)), .val (.ref d), .val (.int (Int32.ofNat (q + i) + 1)), .val (.int (Int32.ofNat len)), .val (.int (Int32.ofNat i + 1)), .val (.int (cv A (o + i)))] [])) := c8.trans (by
        refine iincV X7.here hexec rfl 1 (hb hbytes d32) (by decide) rfl rfl ?_
        refine iincV X7.here hexec rfl 1 (hb hbytes d35) (by decide) rfl rfl ?_
        refine iincV X7.here hexec rfl 1 (hb hbytes d38) (by decide) rfl rfl ?_
        refine XS.goto X7.here hexec rfl (pc0 := 41) rfl (hb hbytes d41) (by decide) rfl ?_
        exact Steps.refl _)
      have c10 : Steps p.tables e below (s₁.setTop (entryFrame m #[.ref b, .int (Int32.ofNat o), .ref d, .int (Int32.ofNat q), .int (Int32.ofNat len)] 7)) (T7.setTop (mkF m 3 #[.val (.ref b), .val (.int (Int32.ofNat (o + (i + 1)))), .val (.ref d), .val (.int (Int32.ofNat (q + (i + 1)))), .val (.int (Int32.ofNat len)), .val (.int (Int32.ofNat (i + 1))), .val (.int (cv A (o + i)))] [])) := by
        have := c9
        rw [succ32, succ32, succ32] at this
        exact this
      exact ih (i + 1) (by omega) _ (Or.inr ⟨_, rfl, rfl⟩) T7 _ (by rw [copyLocs_step, ← List.append_assoc]; exact X7) (pl.trans p7) (fl.step (by omega) hlt (by simp)) c10
  obtain ⟨T9, B9, z9, X9, p9, f9, g9⟩ := loop len 0 (by omega) .unset (Or.inl rfl) s₁ B (by simpa [copyLocs] using X0) ⟨hB0.1, fun _ _ => rfl, rfl⟩ (Laid.zero _ _ _) c2
  have c11 : Steps p.tables e below (s₁.setTop (entryFrame m #[.ref b, .int (Int32.ofNat o), .ref d, .int (Int32.ofNat q), .int (Int32.ofNat len)] 7)) (T9.setTop (mkF m 46 #[.val (.ref b), .val (.int (Int32.ofNat (o + len))), .val (.ref d), .val (.int (Int32.ofNat (q + len))), .val (.int (Int32.ofNat len)), .val (.int (Int32.ofNat len)), z9] [.int (Int32.ofNat len)])) := g9.trans (by
    refine XS.iload X9.here hexec rfl (hb hbytes d3) rfl ?_
    refine XS.iload X9.here hexec rfl (hb hbytes d5) rfl ?_
    refine XS.icmpYes X9.here hexec rfl (pc0 := 7) rfl (hb hbytes d7) rfl (ii_ge_t (nlt32 (by omega) (Nat.le_refl _))) (by decide) rfl ?_
    refine XS.iload X9.here hexec rfl (hb hbytes d44) rfl ?_
    exact Steps.refl _)
  exact ⟨T9, some (.int (Int32.ofNat len)), _, _, _, X9, by simp, rfl, rfl, (fun h => by cases h), ⟨rfl, B9, p9.from hh0, f9⟩, fun fs hl => c11.trans (X9.ireturnOut hexec hret rfl (Or.inl rfl) (hb hbytes d46) hl)⟩
end Cmp5
namespace Cmp3
def yN : MethodName := ⟨"java/lang/StringUTF16", "compress", "([CII)[B"⟩
abbrev yB : ByteArray := jdk_52_method_16_code
theorem d0 : decode yB 0 = .ok (.iload_n 2, 1) := by decide +kernel
theorem d1 : decode yB 1 = .ok (.newarray .byte, 2) := by decide +kernel
theorem d3 : decode yB 3 = .ok (.astore_n 3, 1) := by decide +kernel
theorem d4 : decode yB 4 = .ok (.aload_n 0, 1) := by decide +kernel
theorem d5 : decode yB 5 = .ok (.iload_n 1, 1) := by decide +kernel
theorem d6 : decode yB 6 = .ok (.aload_n 3, 1) := by decide +kernel
theorem d7 : decode yB 7 = .ok (.iconst 0, 1) := by decide +kernel
theorem d8 : decode yB 8 = .ok (.iload_n 2, 1) := by decide +kernel
theorem d9 : decode yB 9 = .ok (.invokestatic 115, 3) := by decide +kernel
theorem d12 : decode yB 12 = .ok (.istore 4, 2) := by decide +kernel
theorem d14 : decode yB 14 = .ok (.iload 4, 2) := by decide +kernel
theorem d16 : decode yB 16 = .ok (.iload_n 2, 1) := by decide +kernel
theorem d17 : decode yB 17 = .ok (.if_icmp (.eq) 40, 3) := by decide +kernel
theorem d57 : decode yB 57 = .ok (.aload_n 3, 1) := by decide +kernel
theorem d58 : decode yB 58 = .ok (.areturn, 1) := by decide +kernel
def site : List Cond := [.arrayClass .byte, Cmp5.tab] ++ staticW U16 115 Cmp5.yN
def tab : Cond := tabOf yN yB 6 (some (.array .byte)) site
def P (b : Addr) (A : Cell) (o len : Nat) (args : Array Value) (s : State) : Prop := args = #[.ref b, .int (Int32.ofNat o), .int (Int32.ofNat len)] ∧ Ch b A s ∧ o + len ≤ A.slots.size ∧ len ≤ 536870912 ∧ ∀ i, i < len → ¬ 255 < cv A (o + i)
def E (b : Addr) (A : Cell) (o len : Nat) (r : Option Value) (s u : State) : Prop := NewArr .byte "[B" len (fun j => .int (lo8 (cv A (o + j)))) r s u ∧ u.heap.size = s.heap.size + 1
/-- no char of the range above 255: a new byte[] of their low bytes -/
theorem law (l : Launch) (b : Addr) (A : Cell) (o len : Nat) : Law l yN 3 3 1 18 yB 6 (some (.array .byte)) site (P b A o len) (E b A o len) [] 1 len := by
  refine Law.of_walk (plainFor_of_name (by decide +kernel)) (by decide +kernel) (by decide +kernel) (by decide) (fun _ _ h => by rw [h.1]; rfl) (fun _ U U' hal hh h => ⟨h.1, h.2.1.mv hal hh, h.2.2⟩) (fun r U U' V V' h1 hal h2 h => ⟨NewArr.mv r U U' V V' h1 hal h2 h.1, by rw [h1, h2]; exact h.2⟩) ?_
  intro p e s m args below meth c s₁ X0 hexec hbytes hml hret hlk hnm hown hh0 W hP
  obtain ⟨rfl, hA, l1, l2, hp⟩ := hP
  have a31 := hA.1.2.2.2
  have c1 : Steps p.tables e below (s₁.setTop (entryFrame m #[.ref b, .int (Int32.ofNat o), .int (Int32.ofNat len)] 6)) (s₁.setTop (mkF m 0 #[.val (.ref b), .val (.int (Int32.ofNat o)), .val (.int (Int32.ofNat len)), .unset, .unset, .unset] [])) := entry rfl
  have c2 : Steps p.tables e below (s₁.setTop (entryFrame m #[.ref b, .int (Int32.ofNat o), .int (Int32.ofNat len)] 6)) (s₁.setTop (mkF m 1 #[.val (.ref b), .val (.int (Int32.ofNat o)), .val (.int (Int32.ofNat len)), .unset, .unset, .unset] [.int (Int32.ofNat len)])) := c1.trans (by
    refine XS.iloadN X0.here hexec rfl (hb hbytes d0) rfl ?_
    exact Steps.refl _)
  obtain ⟨T3, B3, X3, ba3, bs3, bv3, bh3, bf3, st3⟩ := X0.anew hexec (atype := .byte) (wk W (.arrayClass .byte)) rfl (by show len * 1 ≤ _; omega) (by omega) (g := (mkF m 1 #[.val (.ref b), .val (.int (Int32.ofNat o)), .val (.int (Int32.ofNat len)), .unset, .unset, .unset] [.int (Int32.ofNat len)])) rfl (hb hbytes d1) (rest := []) rfl (Nat.le_refl _) (by show 0 + len ≤ len; omega)
  rw [hh0] at ba3 st3
  have kp3 : XT.Kept s T3 := (XT.Kept.of_eq hh0).push bh3
  have hA3 := hA.keep X3.warmed.alike (kp3 _ _ hA.1.1)
  have hne : b ≠ s.heap.size := hA.1.ne
  have c4 : Steps p.tables e below (s₁.setTop (entryFrame m #[.ref b, .int (Int32.ofNat o), .int (Int32.ofNat len)] 6)) (T3.setTop (mkF m 3 #[.val (.ref b), .val (.int (Int32.ofNat o)), .val (.int (Int32.ofNat len)), .unset, .unset, .unset] [.ref s.heap.size])) := c2.trans (st3 _ (Steps.refl _))
  have c5 : Steps p.tables e below (s₁.setTop (entryFrame m #[.ref b, .int (Int32.ofNat o), .int (Int32.ofNat len)] 6)) (T3.setTop (mkF m 9 #[.val (.ref b), .val (.int (Int32.ofNat o)), .val (.int (Int32.ofNat len)), .val (.ref s.heap.size), .unset, .unset] [.int (Int32.ofNat len), .int 0, .ref s.heap.size, .int (Int32.ofNat o), .ref b])) := c4.trans (by
    refine XS.astoreN X3.here hexec rfl (hb hbytes d3) rfl rfl rfl ?_
    refine XS.aloadN X3.here hexec rfl (hb hbytes d4) rfl rfl ?_
    refine XS.iloadN X3.here hexec rfl (hb hbytes d5) rfl ?_
    refine XS.aloadN X3.here hexec rfl (hb hbytes d6) rfl rfl ?_
    refine iconstV X3.here hexec rfl 0 (hb hbytes d7) (by decide) ?_
    refine XS.iloadN X3.here hexec rfl (hb hbytes d8) rfl ?_
    exact Steps.refl _)
  obtain ⟨v6, T6, X6, E6, g6⟩ := X3.callS hexec (Cmp5.law l b A s.heap.size B3 o 0 len) hown (wks W (staticW U16 115 Cmp5.yN)) (wk W Cmp5.tab) (W := 0) (Nat.le_of_ble_eq_true rfl) (Nat.le_of_ble_eq_true rfl) (Nat.le_refl _) (by show 0 + len + 0 ≤ len; omega) (g := (mkF m 9 #[.val (.ref b), .val (.int (Int32.ofNat o)), .val (.int (Int32.ofNat len)), .val (.ref s.heap.size), .unset, .unset] [.int (Int32.ofNat len), .int (Int32.ofNat 0), .ref s.heap.size, .int (Int32.ofNat o), .ref b])) rfl (by rw [hml]; rfl) c5 (argsL := [.ref b, .int (Int32.ofNat o), .ref s.heap.size, .int (Int32.ofNat 0), .int (Int32.ofNat len)]) (rest := []) rfl rfl (by show 2 * 0 + 0 ≤ _; decide) (hb hbytes d9) (⟨rfl, hA3, ba3, hne, l1, by rw [bs3]; simp, hp⟩)
  obtain ⟨rfl, B6, p6, f6⟩ := E6
  have c7 : Steps p.tables e below (s₁.setTop (entryFrame m #[.ref b, .int (Int32.ofNat o), .int (Int32.ofNat len)] 6)) (T6.setTop (mkF m 12 #[.val (.ref b), .val (.int (Int32.ofNat o)), .val (.int (Int32.ofNat len)), .val (.ref s.heap.size), .unset, .unset] [.int (Int32.ofNat len)])) := g6
  have c8 : Steps p.tables e below (s₁.setTop (entryFrame m #[.ref b, .int (Int32.ofNat o), .int (Int32.ofNat len)] 6)) (T6.setTop (mkF m 58 #[.val (.ref b), .val (.int (Int32.ofNat o)), .val (.int (Int32.ofNat len)), .val (.ref s.heap.size), .val (.int (Int32.ofNat len)), .unset] [.ref s.heap.size])) := c7.trans (by
    refine XS.istore X6.here hexec rfl (hb hbytes d12) rfl rfl ?_
    refine XS.iload X6.here hexec rfl (hb hbytes d14) rfl ?_
    refine XS.iloadN X6.here hexec rfl (hb hbytes d16) rfl ?_
    refine XS.icmpYes X6.here hexec rfl (pc0 := 17) rfl (hb hbytes d17) rfl (ii_eq_t rfl) (by decide) rfl ?_
    refine XS.aloadN X6.here hexec rfl (hb hbytes d57) rfl rfl ?_
    exact Steps.refl _)
  have X8 := X6.wide (L' := []) (cells' := 1) (slots' := len) (fun x hx hlt => by
    simp only [List.nil_append, copyLocs, List.mem_map, List.mem_range] at hx
    obtain ⟨i, -, rfl⟩ := hx
    exact absurd hlt (Nat.lt_irrefl _)) (Nat.le_refl _) (by omega)
  exact ⟨T6, some (.ref s.heap.size), _, _, _, X8, rfl, rfl, rfl, (fun h => by cases h), ⟨⟨rfl, B6, ba3.like (X3.warmed.alike.symm.trans X6.warmed.alike) p6.1 f6.1 f6.2.1 f6.2.2.1, f6.2.1.trans bv3, by rw [X6.warmed.alike.findClass, f6.1]; exact bf3, by rw [f6.2.2.1, bs3]; simp, fun j hj => by rw [f6.2.2.2 j, if_pos (by omega)]; rfl, kp3.put p6 (Nat.le_refl _)⟩, by rw [p6.2.2, bh3, hh0]; simp⟩, fun fs hl => c8.trans (X8.areturnOut hexec rfl hret rfl (hb hbytes d58) hl)⟩
end Cmp3
namespace CodL
def yN : MethodName := ⟨"java/lang/StringUTF16", "coderFromArrayLen", "([BI)B"⟩
abbrev yB : ByteArray := jdk_52_method_15_code
theorem d0 : decode yB 0 = .ok (.iload_n 1, 1) := by decide +kernel
theorem d1 : decode yB 1 = .ok (.aload_n 0, 1) := by decide +kernel
theorem d2 : decode yB 2 = .ok (.arraylength, 1) := by decide +kernel
theorem d3 : decode yB 3 = .ok (.isub, 1) := by decide +kernel
theorem d4 : decode yB 4 = .ok (.bipush 31, 2) := by decide +kernel
theorem d6 : decode yB 6 = .ok (.iushr, 1) := by decide +kernel
theorem d7 : decode yB 7 = .ok (.i2b, 1) := by decide +kernel
theorem d8 : decode yB 8 = .ok (.ireturn, 1) := by decide +kernel
def site : List Cond := []
def tab : Cond := tabOf yN yB 2 (some .byte) site
def P (d : Addr) (B : Cell) (args : Array Value) (s : State) : Prop := args = #[.ref d, .int (Int32.ofNat B.slots.size)] ∧ Arr .byte d B s
def E (r : Option Value) (s u : State) : Prop := XT.PureE (some (.int 0)) r s u
/-- an array as long as the number of chars: LATIN1 -/
theorem law (l : Launch) (d : Addr) (B : Cell) : Law l yN 2 2 0 0 yB 2 (some .byte) site (P d B) E [] 0 0 := by
  refine Law.of_walk (plainFor_of_name (by decide +kernel)) (by decide +kernel) (by decide +kernel) (by decide) (fun _ _ h => by rw [h.1]; rfl) (fun _ U U' hal hh h => ⟨h.1, h.2.mv hal hh⟩) (fun r U U' V V' h1 hal h2 h => XT.PureE.mv r U U' V V' h1 hal h2 h) ?_
  intro p e s m args below meth c s₁ X0 hexec hbytes hml hret hlk hnm hown hh0 W hP
  obtain ⟨rfl, hB⟩ := hP
  have hB0 := hB.mv X0.warmed.alike hh0
  have c1 : Steps p.tables e below (s₁.setTop (entryFrame m #[.ref d, .int (Int32.ofNat B.slots.size)] 2)) (s₁.setTop (mkF m 0 #[.val (.ref d), .val (.int (Int32.ofNat B.slots.size))] [])) := entry rfl
  have c2 : Steps p.tables e below (s₁.setTop (entryFrame m #[.ref d, .int (Int32.ofNat B.slots.size)] 2)) (s₁.setTop (mkF m 2 #[.val (.ref d), .val (.int (Int32.ofNat B.slots.size))] [.ref d, .int (Int32.ofNat B.slots.size)])) := c1.trans (by
    refine XS.iloadN X0.here hexec rfl (hb hbytes d0) rfl ?_
    refine XS.aloadN X0.here hexec rfl (hb hbytes d1) rfl rfl ?_
    exact Steps.refl _)
  have c3 : Steps p.tables e below (s₁.setTop (entryFrame m #[.ref d, .int (Int32.ofNat B.slots.size)] 2)) (s₁.setTop (mkF m 8 #[.val (.ref d), .val (.int (Int32.ofNat B.slots.size))] [.int (lo8 (ushr (Int32.ofNat B.slots.size - Int32.ofNat B.slots.size) 31))])) := c2.trans (by
    refine X0.alen hexec hB0 rfl rfl (hb hbytes d2) ?_
    refine XS.isub X0.here hexec rfl (hb hbytes d3) rfl ?_
    refine bipushV X0.here hexec rfl 31 (hb hbytes d4) (by decide) ?_
    refine iushr X0.here hexec rfl (hb hbytes d6) rfl ?_
    refine i2b X0.here hexec rfl (hb hbytes d7) rfl ?_
    exact Steps.refl _)
  have e0 : lo8 (ushr (Int32.ofNat B.slots.size - Int32.ofNat B.slots.size) 31) = 0 := by rw [Int32.sub_self]; decide
  rw [e0] at c3
  exact ⟨s₁, some (.int 0), _, _, _, X0, rfl, rfl, rfl, (fun h => by cases h), ⟨rfl, hh0⟩, fun fs hl => c3.trans (X0.ireturnOut hexec hret rfl (Or.inr (Or.inr (Or.inl rfl))) (hb hbytes d8) hl)⟩
end CodL
/-- the String at a is Latin-1 over a new byte[] (the heap's one new cell): the low bytes of the len chars of A from o on; every cell but a is kept -/
def Got (a : Addr) (D : Cell) (fV fC : Field) (A : Cell) (o len : Nat) (r : Option Value) (s u : State) : Prop := r = none ∧ ∃ D' V : Cell, Blank "java/lang/String" a D' u ∧ Same D D' [fV.slot, fC.slot] ∧ D'.slots[fV.slot]? = some (.ref s.heap.size) ∧ D'.slots[fC.slot]? = some (.int 0) ∧ Arr .byte s.heap.size V u ∧ V.vm = .none ∧ u.vm.findClass "[B" = some V.cls ∧ V.slots.size = len ∧ (∀ j, j < len → V.slots[j]? = some (.int (lo8 (cv A (o + j))))) ∧ (∀ (y : Addr) (c : Cell), y ≠ a → s.heap[y]? = some c → u.heap[y]? = some c) ∧ u.heap.size = s.heap.size + 1
theorem Got.mv {a : Addr} {D A : Cell} {fV fC : Field} {o len : Nat} : ∀ r (U U' V V' : State), U'.heap = U.heap → V.vm.Alike V'.vm → V'.heap = V.heap → Got a D fV fC A o len r U V → Got a D fV fC A o len r U' V' :=
  fun r U U' V V' h1 hal h2 ⟨e0, D', X, a1, a2, a3, a4, a5, a6, a7, a8, a9, a10, a11⟩ => ⟨e0, D', X, a1.mv hal h2, a2, by rw [h1]; exact a3, a4, by rw [h1]; exact a5.mv hal h2, a6, by rw [hal.findClass]; exact a7, a8, a9, by rw [h1, h2]; exact a10, by rw [h1, h2]; exact a11⟩
namespace New4
def yN : MethodName := ⟨"java/lang/String", "<init>", "([CIILjava/lang/Void;)V"⟩
abbrev yB : ByteArray := jdk_42_method_149_code
theorem d0 : decode yB 0 = .ok (.aload_n 0, 1) := by decide +kernel
theorem d1 : decode yB 1 = .ok (.invokespecial 1, 3) := by decide +kernel
theorem d4 : decode yB 4 = .ok (.iload_n 3, 1) := by decide +kernel
theorem d5 : decode yB 5 = .ok (.ifCond (.ne) 22, 3) := by decide +kernel
theorem d27 : decode yB 27 = .ok (.getstatic 38, 3) := by decide +kernel
theorem d30 : decode yB 30 = .ok (.ifCond (.eq) 28, 3) := by decide +kernel
theorem d33 : decode yB 33 = .ok (.aload_n 1, 1) := by decide +kernel
theorem d34 : decode yB 34 = .ok (.iload_n 2, 1) := by decide +kernel
theorem d35 : decode yB 35 = .ok (.iload_n 3, 1) := by decide +kernel
theorem d36 : decode yB 36 = .ok (.invokestatic 177, 3) := by decide +kernel
theorem d39 : decode yB 39 = .ok (.astore 5, 2) := by decide +kernel
theorem d41 : decode yB 41 = .ok (.aload_n 0, 1) := by decide +kernel
theorem d42 : decode yB 42 = .ok (.aload 5, 2) := by decide +kernel
theorem d44 : decode yB 44 = .ok (.iload_n 3, 1) := by decide +kernel
theorem d45 : decode yB 45 = .ok (.invokestatic 47, 3) := by decide +kernel
theorem d48 : decode yB 48 = .ok (.putfield 15, 3) := by decide +kernel
theorem d51 : decode yB 51 = .ok (.aload_n 0, 1) := by decide +kernel
theorem d52 : decode yB 52 = .ok (.aload 5, 2) := by decide +kernel
theorem d54 : decode yB 54 = .ok (.putfield 9, 3) := by decide +kernel
theorem d57 : decode yB 57 = .ok (.return_, 1) := by decide +kernel
def site : List Cond := [.fieldLink "java/lang/String" 38 "java/lang/String" "COMPACT_STRINGS" "Z", Cmp3.tab, CodL.tab, .laysFinal "java/lang/String" "java/lang/String" "value" "[B", .fieldLink "java/lang/String" 9 "java/lang/String" "value" "[B", .laysFinal "java/lang/String" "java/lang/String" "coder" "B", .fieldLink "java/lang/String" 15 "java/lang/String" "coder" "B"] ++ objW "java/lang/String" 1 ++ staticW "java/lang/String" 177 Cmp3.yN ++ staticW "java/lang/String" 47 CodL.yN
def tab : Cond := tabOf yN yB 6 none site
def P (a : Addr) (D : Cell) (fV fC : Field) (b : Addr) (A : Cell) (z : Int32) (o len : Nat) (args : Array Value) (s : State) : Prop := args = #[.ref a, .ref b, .int (Int32.ofNat o), .int (Int32.ofNat len), .null] ∧ Blank "java/lang/String" a D s ∧ Found "java/lang/String" "value" "[B" fV s ∧ Found "java/lang/String" "coder" "B" fC s ∧ Ch b A s ∧ StaticIs s "java/lang/String" "COMPACT_STRINGS" "Z" (.int z) ∧ ¬ z = 0 ∧ 0 < len ∧ o + len ≤ A.slots.size ∧ len ≤ 536870912 ∧ ∀ i, i < len → ¬ 255 < cv A (o + i)
def E (a : Addr) (D : Cell) (fV fC : Field) (A : Cell) (o len : Nat) (r : Option Value) (s u : State) : Prop := Got a D fV fC A o len r s u
/-- len > 0, no char of the range above 255: a Latin-1 String of their low bytes -/
theorem law (l : Launch) (a : Addr) (D : Cell) (fV fC : Field) (b : Addr) (A : Cell) (z : Int32) (o len : Nat) : Law l yN 5 4 2 35 yB 6 none site (P a D fV fC b A z o len) (E a D fV fC A o len) [⟨a, fC.slot⟩, ⟨a, fV.slot⟩] 1 len := by
  refine Law.of_walk (plainFor_of_name (by decide +kernel)) (by decide +kernel) (by decide +kernel) (by decide) (fun _ _ h => by rw [h.1]; rfl) (fun _ U U' hal hh h => ⟨h.1, h.2.1.mv hal hh, h.2.2.1.al hal, h.2.2.2.1.al hal, h.2.2.2.2.1.mv hal hh, h.2.2.2.2.2.1.there hal hh, h.2.2.2.2.2.2⟩) (fun r U U' V V' h1 hal h2 h => Got.mv r U U' V V' h1 hal h2 h) ?_
  intro p e s m args below meth c s₁ X0 hexec hbytes hml hret hlk hnm hown hh0 W hP
  obtain ⟨rfl, hB, f1, f2, hA, s1, hz, l0, l1, l2, hp⟩ := hP
  have a31 := hA.1.2.2.2
  have c1 : Steps p.tables e below (s₁.setTop (entryFrame m #[.ref a, .ref b, .int (Int32.ofNat o), .int (Int32.ofNat len), .null] 6)) (s₁.setTop (mkF m 0 #[.val (.ref a), .val (.ref b), .val (.int (Int32.ofNat o)), .val (.int (Int32.ofNat len)), .val .null, .unset] [])) := entry rfl
  have c2 : Steps p.tables e below (s₁.setTop (entryFrame m #[.ref a, .ref b, .int (Int32.ofNat o), .int (Int32.ofNat len), .null] 6)) (s₁.setTop (mkF m 1 #[.val (.ref a), .val (.ref b), .val (.int (Int32.ofNat o)), .val (.int (Int32.ofNat len)), .val .null, .unset] [.ref a])) := c1.trans (by
    refine XS.aloadN X0.here hexec rfl (hb hbytes d0) rfl rfl ?_
    exact Steps.refl _)
  obtain ⟨T3, X3, q3, st3⟩ := X0.oinit hexec hown (wks W (objW "java/lang/String" 1)) (g := (mkF m 1 #[.val (.ref a), .val (.ref b), .val (.int (Int32.ofNat o)), .val (.int (Int32.ofNat len)), .val .null, .unset] [.ref a])) rfl (by rw [hml]; rfl) (rest := []) rfl (hb hbytes d1) (W := 0) (by show 2 * 0 + 0 ≤ _; decide) (Nat.le_of_ble_eq_true rfl) (Nat.le_of_ble_eq_true rfl)
  have hh3 := q3.trans hh0
  have c4 : Steps p.tables e below (s₁.setTop (entryFrame m #[.ref a, .ref b, .int (Int32.ofNat o), .int (Int32.ofNat len), .null] 6)) (T3.setTop (mkF m 27 #[.val (.ref a), .val (.ref b), .val (.int (Int32.ofNat o)), .val (.int (Int32.ofNat len)), .val .null, .unset] [])) := (c2.trans (st3 _ (Steps.refl _))).trans (by
    refine XS.iloadN X3.here hexec rfl (hb hbytes d4) rfl ?_
    refine XS.ifYes X3.here hexec rfl (pc0 := 5) rfl (hb hbytes d5) rfl (i0_ne_t (nz32 (by omega) l0)) (by decide) rfl ?_
    exact Steps.refl _)
  obtain ⟨T5, X5, q5, st5⟩ := X3.sget hexec hown (wk W (.fieldLink "java/lang/String" 38 "java/lang/String" "COMPACT_STRINGS" "Z")) s1 (fun _ _ h => by rw [hh3]; exact h) (g := (mkF m 27 #[.val (.ref a), .val (.ref b), .val (.int (Int32.ofNat o)), .val (.int (Int32.ofNat len)), .val .null, .unset] [])) rfl (hb hbytes d27)
  have hh5 := q5.trans hh3
  have c6 : Steps p.tables e below (s₁.setTop (entryFrame m #[.ref a, .ref b, .int (Int32.ofNat o), .int (Int32.ofNat len), .null] 6)) (T5.setTop (mkF m 30 #[.val (.ref a), .val (.ref b), .val (.int (Int32.ofNat o)), .val (.int (Int32.ofNat len)), .val .null, .unset] [.int z])) := c4.trans (st5 _ (Steps.refl _))
  have c7 : Steps p.tables e below (s₁.setTop (entryFrame m #[.ref a, .ref b, .int (Int32.ofNat o), .int (Int32.ofNat len), .null] 6)) (T5.setTop (mkF m 36 #[.val (.ref a), .val (.ref b), .val (.int (Int32.ofNat o)), .val (.int (Int32.ofNat len)), .val .null, .unset] [.int (Int32.ofNat len), .int (Int32.ofNat o), .ref b])) := c6.trans (by
    refine XS.ifNo X5.here hexec rfl (hb hbytes d30) rfl (i0_eq_f hz) ?_
    refine XS.aloadN X5.here hexec rfl (hb hbytes d33) rfl rfl ?_
    refine XS.iloadN X5.here hexec rfl (hb hbytes d34) rfl ?_
    refine XS.iloadN X5.here hexec rfl (hb hbytes d35) rfl ?_
    exact Steps.refl _)
  obtain ⟨v8, T8, X8, E8, g8⟩ := X5.callS hexec (Cmp3.law l b A o len) hown (wks W (staticW "java/lang/String" 177 Cmp3.yN)) (wk W Cmp3.tab) (W := 0) (Nat.le_of_ble_eq_true rfl) (Nat.le_of_ble_eq_true rfl) (Nat.le_refl _) (by show 0 + len ≤ len; omega) (g := (mkF m 36 #[.val (.ref a), .val (.ref b), .val (.int (Int32.ofNat o)), .val (.int (Int32.ofNat len)), .val .null, .unset] [.int (Int32.ofNat len), .int (Int32.ofNat o), .ref b])) rfl (by rw [hml]; rfl) c7 (argsL := [.ref b, .int (Int32.ofNat o), .int (Int32.ofNat len)]) (rest := []) rfl rfl (by show 2 * 0 + 0 ≤ _; decide) (hb hbytes d36) (⟨rfl, hA.mv X5.warmed.alike hh5, l1, l2, hp⟩)
  obtain ⟨e8, z8⟩ := E8
  obtain ⟨rfl, N, n1, n2, n3, n4, n5, n6⟩ := NewArr.mv _ T5 s _ _ hh5.symm (Vm.Alike.refl _) rfl e8
  rw [hh5] at z8
  have hB1 := hB.keep X8.warmed.alike (n6 _ _ hB.1)
  have hne : s.heap.size ≠ a := (Nat.ne_of_lt (Array.getElem?_eq_some_iff.mp hB.1).1).symm
  have c9 : Steps p.tables e below (s₁.setTop (entryFrame m #[.ref a, .ref b, .int (Int32.ofNat o), .int (Int32.ofNat len), .null] 6)) (T8.setTop (mkF m 39 #[.val (.ref a), .val (.ref b), .val (.int (Int32.ofNat o)), .val (.int (Int32.ofNat len)), .val .null, .unset] [.ref s.heap.size])) := g8
  have c10 : Steps p.tables e below (s₁.setTop (entryFrame m #[.ref a, .ref b, .int (Int32.ofNat o), .int (Int32.ofNat len), .null] 6)) (T8.setTop (mkF m 45 #[.val (.ref a), .val (.ref b), .val (.int (Int32.ofNat o)), .val (.int (Int32.ofNat len)), .val .null, .val (.ref s.heap.size)] [.int (Int32.ofNat N.slots.size), .ref s.heap.size, .ref a])) := by
    have hc : Steps p.tables e below (s₁.setTop (entryFrame m #[.ref a, .ref b, .int (Int32.ofNat o), .int (Int32.ofNat len), .null] 6)) (T8.setTop (mkF m 45 #[.val (.ref a), .val (.ref b), .val (.int (Int32.ofNat o)), .val (.int (Int32.ofNat len)), .val .null, .val (.ref s.heap.size)] [.int (Int32.ofNat len), .ref s.heap.size, .ref a])) := c9.trans (by
      refine XS.astore X8.here hexec rfl (hb hbytes d39) rfl rfl rfl ?_
      refine XS.aloadN X8.here hexec rfl (hb hbytes d41) rfl rfl ?_
      refine XS.aload X8.here hexec rfl (hb hbytes d42) rfl rfl ?_
      refine XS.iloadN X8.here hexec rfl (hb hbytes d44) rfl ?_
      exact Steps.refl _)
    rw [n4]; exact hc
  obtain ⟨v11, T11, X11, E11, g11⟩ := X8.callS hexec (CodL.law l s.heap.size N) hown (wks W (staticW "java/lang/String" 47 CodL.yN)) (wk W CodL.tab) (W := 1) (Nat.le_of_ble_eq_true rfl) (Nat.le_of_ble_eq_true rfl) (Nat.le_refl _) (by show 0 + len + 0 ≤ len; omega) (g := (mkF m 45 #[.val (.ref a), .val (.ref b), .val (.int (Int32.ofNat o)), .val (.int (Int32.ofNat len)), .val .null, .val (.ref s.heap.size)] [.int (Int32.ofNat N.slots.size), .ref s.heap.size, .ref a])) rfl (by rw [hml]; rfl) c10 (argsL := [.ref s.heap.size, .int (Int32.ofNat N.slots.size)]) (rest := [.ref a]) rfl rfl (by show 2 * 0 + (1 + 0) ≤ _; decide) (hb hbytes d45) (⟨rfl, n1⟩)
  obtain ⟨rfl, q11⟩ := E11
  have hB11 := hB1.mv (X8.warmed.alike.symm.trans X11.warmed.alike) q11
  have c12 : Steps p.tables e below (s₁.setTop (entryFrame m #[.ref a, .ref b, .int (Int32.ofNat o), .int (Int32.ofNat len), .null] 6)) (T11.setTop (mkF m 48 #[.val (.ref a), .val (.ref b), .val (.int (Int32.ofNat o)), .val (.int (Int32.ofNat len)), .val .null, .val (.ref s.heap.size)] [.int 0, .ref a])) := g11
  obtain ⟨T13, X13, p13, bl13, sl13, st13⟩ := X11.finit hexec hown (wk W (.fieldLink "java/lang/String" 15 "java/lang/String" "coder" "B")) (Or.inr ⟨_, (wk W (.laysFinal "java/lang/String" "java/lang/String" "coder" "B"))⟩) (Or.inl ⟨rfl, hnm⟩) f2 (Or.inl rfl) hB11 (t := .byte) (by decide +kernel) rfl (g := (mkF m 48 #[.val (.ref a), .val (.ref b), .val (.int (Int32.ofNat o)), .val (.int (Int32.ofNat len)), .val .null, .val (.ref s.heap.size)] [.int 0, .ref a])) rfl (rest := []) rfl (hb hbytes d48)
  have c14 : Steps p.tables e below (s₁.setTop (entryFrame m #[.ref a, .ref b, .int (Int32.ofNat o), .int (Int32.ofNat len), .null] 6)) (T13.setTop (mkF m 54 #[.val (.ref a), .val (.ref b), .val (.int (Int32.ofNat o)), .val (.int (Int32.ofNat len)), .val .null, .val (.ref s.heap.size)] [.ref s.heap.size, .ref a])) := (c12.trans (st13 _ (Steps.refl _))).trans (by
    refine XS.aloadN X13.here hexec rfl (hb hbytes d51) rfl rfl ?_
    refine XS.aload X13.here hexec rfl (hb hbytes d52) rfl rfl ?_
    exact Steps.refl _)
  obtain ⟨T15, X15, p15, bl15, sl15, st15⟩ := X13.finit hexec hown (wk W (.fieldLink "java/lang/String" 9 "java/lang/String" "value" "[B")) (Or.inr ⟨_, (wk W (.laysFinal "java/lang/String" "java/lang/String" "value" "[B"))⟩) (Or.inl ⟨rfl, hnm⟩) f1 (Or.inl rfl) bl13 (t := (.array .byte)) (by decide +kernel) rfl (g := (mkF m 54 #[.val (.ref a), .val (.ref b), .val (.int (Int32.ofNat o)), .val (.int (Int32.ofNat len)), .val .null, .val (.ref s.heap.size)] [.ref s.heap.size, .ref a])) rfl (rest := []) rfl (hb hbytes d54)
  have c16 : Steps p.tables e below (s₁.setTop (entryFrame m #[.ref a, .ref b, .int (Int32.ofNat o), .int (Int32.ofNat len), .null] 6)) (T15.setTop (mkF m 57 #[.val (.ref a), .val (.ref b), .val (.int (Int32.ofNat o)), .val (.int (Int32.ofNat len)), .val .null, .val (.ref s.heap.size)] [])) := c14.trans (st15 _ (Steps.refl _))
  have ap := apart (Or.inr ⟨_, (wk W (.laysFinal "java/lang/String" "java/lang/String" "value" "[B"))⟩) (Or.inr ⟨_, (wk W (.laysFinal "java/lang/String" "java/lang/String" "coder" "B"))⟩) f1 f2 (t₁ := .array .byte) (t₂ := .byte) (by decide +kernel) (by decide +kernel) (by decide)
  have al := X8.warmed.alike.symm.trans X15.warmed.alike
  have n7 : T11.heap[s.heap.size]? = some N := by rw [q11]; exact n1.1
  exact ⟨T15, none, _, _, _, X15, by simp, rfl, by omega, (fun _ => rfl), ⟨rfl, _, N, bl15, ((Same.refl D _).set _ (by simp)).set _ (by simp), sl15, (Cell.slots_setSlot_ne _ ap).trans sl13, n1.keep al (p15.other hne (p13.other hne n7)), n2, by rw [al.findClass]; exact n3, n4, n5, fun y c h1 h2 => p15.other h1 (p13.other h1 (by rw [q11]; exact n6 y c h2)), by rw [p15.2.2, p13.2.2, q11]; exact z8⟩, fun fs hl => c16.trans (X15.returnOut hexec hret (hb hbytes d57) hl)⟩
end New4
namespace New1
def yN : MethodName := ⟨"java/lang/String", "<init>", "([C)V"⟩
abbrev yB : ByteArray := jdk_42_method_3_code
theorem d0 : decode yB 0 = .ok (.aload_n 0, 1) := by decide +kernel
theorem d1 : decode yB 1 = .ok (.aload_n 1, 1) := by decide +kernel
theorem d2 : decode yB 2 = .ok (.iconst 0, 1) := by decide +kernel
theorem d3 : decode yB 3 = .ok (.aload_n 1, 1) := by decide +kernel
theorem d4 : decode yB 4 = .ok (.arraylength, 1) := by decide +kernel
theorem d5 : decode yB 5 = .ok (.aconst_null, 1) := by decide +kernel
theorem d6 : decode yB 6 = .ok (.invokespecial 27, 3) := by decide +kernel
theorem d9 : decode yB 9 = .ok (.return_, 1) := by decide +kernel
def site : List Cond := [New4.tab] ++ initW "java/lang/String" 27 New4.yN
def tab : Cond := tabOf yN yB 2 none site
def P (a : Addr) (D : Cell) (fV fC : Field) (b : Addr) (A : Cell) (z : Int32) (args : Array Value) (s : State) : Prop := args = #[.ref a, .ref b] ∧ Blank "java/lang/String" a D s ∧ Found "java/lang/String" "value" "[B" fV s ∧ Found "java/lang/String" "coder" "B" fC s ∧ Ch b A s ∧ StaticIs s "java/lang/String" "COMPACT_STRINGS" "Z" (.int z) ∧ ¬ z = 0 ∧ 0 < A.slots.size ∧ A.slots.size ≤ 536870912 ∧ ∀ i, i < A.slots.size → ¬ 255 < cv A i
def E (a : Addr) (D : Cell) (fV fC : Field) (A : Cell) (r : Option Value) (s u : State) : Prop := Got a D fV fC A 0 A.slots.size r s u
/-- new String(chars), not empty, no char above 255: a Latin-1 String of their low bytes -/
theorem law (l : Launch) (a : Addr) (D : Cell) (fV fC : Field) (b : Addr) (A : Cell) (z : Int32) : Law l yN 2 1 3 52 yB 2 none site (P a D fV fC b A z) (E a D fV fC A) [⟨a, fC.slot⟩, ⟨a, fV.slot⟩] 1 A.slots.size := by
  refine Law.of_walk (plainFor_of_name (by decide +kernel)) (by decide +kernel) (by decide +kernel) (by decide) (fun _ _ h => by rw [h.1]; rfl) (fun _ U U' hal hh h => ⟨h.1, h.2.1.mv hal hh, h.2.2.1.al hal, h.2.2.2.1.al hal, h.2.2.2.2.1.mv hal hh, h.2.2.2.2.2.1.there hal hh, h.2.2.2.2.2.2⟩) (fun r U U' V V' h1 hal h2 h => Got.mv r U U' V V' h1 hal h2 h) ?_
  intro p e s m args below meth c s₁ X0 hexec hbytes hml hret hlk hnm hown hh0 W hP
  obtain ⟨rfl, hB, f1, f2, hA, s1, hz, l0, l2, hp⟩ := hP
  have c1 : Steps p.tables e below (s₁.setTop (entryFrame m #[.ref a, .ref b] 2)) (s₁.setTop (mkF m 0 #[.val (.ref a), .val (.ref b)] [])) := entry rfl
  have c2 : Steps p.tables e below (s₁.setTop (entryFrame m #[.ref a, .ref b] 2)) (s₁.setTop (mkF m 6 #[.val (.ref a), .val (.ref b)] [.null, .int (Int32.ofNat A.slots.size), .int 0, .ref b, .ref a])) := c1.trans (by
    refine XS.aloadN X0.here hexec rfl (hb hbytes d0) rfl rfl ?_
    refine XS.aloadN X0.here hexec rfl (hb hbytes d1) rfl rfl ?_
    refine iconstV X0.here hexec rfl 0 (hb hbytes d2) (by decide) ?_
    refine XS.aloadN X0.here hexec rfl (hb hbytes d3) rfl rfl ?_
    refine X0.alen hexec (hA.1.mv X0.warmed.alike hh0) rfl rfl (hb hbytes d4) ?_
    refine XS.aconstNull X0.here hexec rfl (hb hbytes d5) ?_
    exact Steps.refl _)
  obtain ⟨v3, T3, X3, E3, g3⟩ := X0.callN hexec (New4.law l a D fV fC b A z 0 A.slots.size) rfl hown (wks W (initW "java/lang/String" 27 New4.yN)) (W New4.tab (by simp only [site, List.mem_cons, List.mem_append, true_or, or_true])) (W := 0) (Nat.le_of_ble_eq_true rfl) (Nat.le_of_ble_eq_true rfl) (Nat.le_refl _) (by show 0 + A.slots.size ≤ A.slots.size; omega) (g := (mkF m 6 #[.val (.ref a), .val (.ref b)] [.null, .int (Int32.ofNat A.slots.size), .int (Int32.ofNat 0), .ref b, .ref a])) rfl (by rw [hml]; rfl) c2 (argsL := [.ref b, .int (Int32.ofNat 0), .int (Int32.ofNat A.slots.size), .null]) (rest := []) rfl rfl (by show 2 * 0 + 0 ≤ _; decide) (hb hbytes d6) (⟨rfl, hB.mv X0.warmed.alike hh0, f1.al X0.warmed.alike, f2.al X0.warmed.alike, hA.mv X0.warmed.alike hh0, s1.there X0.warmed.alike hh0, hz, l0, by omega, l2, fun i hi => by rw [Nat.zero_add]; exact hp i hi⟩)
  have e0 := Got.mv _ s₁ s _ _ hh0.symm (Vm.Alike.refl _) rfl E3
  obtain rfl := e0.1
  have c4 : Steps p.tables e below (s₁.setTop (entryFrame m #[.ref a, .ref b] 2)) (T3.setTop (mkF m 9 #[.val (.ref a), .val (.ref b)] [])) := g3
  exact ⟨T3, none, _, _, _, X3, by simp, rfl, by omega, (fun _ => rfl), e0, fun fs hl => c4.trans (X3.returnOut hexec hret (hb hbytes d9) hl)⟩
theorem pays {l : Launch} {R : Room} {p : Program} {e : Env} {below : List Frame} {s : State} {sargs : Array Value} {len W : Nat} (a : Addr) (D : Cell) (fV fC : Field) (b : Addr) (A : Cell) (z : Int32) (htab : tab.before sargs s = true) (hfr : 4 ≤ R.frames) (hlo : W + 65 ≤ R.locals) :
    Back l R p e below s sargs yN len W (fun A₁ a₁ => A₁.cells + 1 ≤ R.cells ∧ A₁.slots + A.slots.size ≤ R.slots ∧ P a D fV fC b A z a₁ A₁.U) (fun A₁ _ v₁ B₁ => E a D fV fC A v₁ A₁.U B₁.U ∧ B₁.locs = A₁.locs ++ [⟨a, fC.slot⟩, ⟨a, fV.slot⟩] ∧ B₁.cells = A₁.cells + 1 ∧ B₁.slots = A₁.slots + A.slots.size) :=
  (law l a D fV fC b A z).pays htab hfr (by omega)
end New1
end StrChars
namespace StrChars.Road
open Jvm Sem ClassFile Op Lib Jvm.Stand Jvm.Free Jvm.Free.XT
open Jvm.Lib.Cold (StaticIs)
abbrev ST : String := "java/lang/String"
/-- every table word that New1's law asks, flat -/
abbrev words : List Jvm.Cond := [.code New1.yN New1.yB 2 none, .initialized ST, .methodLink ST 27 New4.yN, .instanceMethod New4.yN,
  .code New4.yN New4.yB 6 none, .fieldLink ST 38 ST "COMPACT_STRINGS" "Z", .laysFinal ST ST "value" "[B", .fieldLink ST 9 ST "value" "[B", .laysFinal ST ST "coder" "B", .fieldLink ST 15 ST "coder" "B",
  .methodLink ST 1 Lib.objectInit, .instanceMethod Lib.objectInit, .code Lib.objectInit ⟨#[0xb1]⟩ 1 none, .methodLink ST 177 Cmp3.yN, .static Cmp3.yN, .methodLink ST 47 CodL.yN, .static CodL.yN,
  .code Cmp3.yN Cmp3.yB 6 (some (.array .byte)), .initialized U16, .arrayClass .byte, .methodLink U16 115 Cmp5.yN, .static Cmp5.yN, .code Cmp5.yN Cmp5.yB 7 (some .int), .code CodL.yN CodL.yB 2 (some .byte)]
theorem tab_of {a : Array Value} {s : State} (h : ∀ w ∈ words, w.before a s = true) : New1.tab.before a s = true := by
  have h5 : Cmp5.tab.before a s = true := unparts (wk h (.code Cmp5.yN Cmp5.yB 7 (some .int))) (wks h (.initialized Cmp5.yN.cls :: Cmp5.site))
  have hc : CodL.tab.before a s = true := unparts (wk h (.code CodL.yN CodL.yB 2 (some .byte))) (wks h (.initialized CodL.yN.cls :: CodL.site))
  have q5 : ∀ w ∈ Cmp5.tab :: words, w.before a s = true := fun w hw => (List.mem_cons.mp hw).elim (fun e => e ▸ h5) (h w)
  have h3 : Cmp3.tab.before a s = true := unparts (wk q5 (.code Cmp3.yN Cmp3.yB 6 (some (.array .byte)))) (wks q5 (.initialized Cmp3.yN.cls :: Cmp3.site))
  have q3 : ∀ w ∈ Cmp3.tab :: CodL.tab :: words, w.before a s = true := fun w hw => (List.mem_cons.mp hw).elim (fun e => e ▸ h3) fun hw => (List.mem_cons.mp hw).elim (fun e => e ▸ hc) (h w)
  have h4 : New4.tab.before a s = true := unparts (wk q3 (.code New4.yN New4.yB 6 none)) (wks q3 (.initialized New4.yN.cls :: New4.site))
  have q4 : ∀ w ∈ New4.tab :: words, w.before a s = true := fun w hw => (List.mem_cons.mp hw).elim (fun e => e ▸ h4) (h w)
  exact unparts (wk q4 (.code New1.yN New1.yB 2 none)) (wks q4 (.initialized New1.yN.cls :: New1.site))
/-- the words ride from the start Z to the walk's own state -/
theorem moved {Z s : State} {a0 args : Array Value} (hZ : Z.Warmed39 s.vm) (hw : ∀ d ∈ words, d.before a0 Z = true) : ∀ d ∈ words, d.before args s = true := fun d hd => by
  have q := hw d hd
  have t : ∀ d ∈ words, d = .arrayClass .byte ∨ (d.onTables && d.keepsFace) = true := by decide +kernel
  rcases t d hd with rfl | t
  · exact RoadKit.mvA hZ q
  · exact RoadKit.mv hZ q t
/-- WHAT COMES BACK, over the tables of the start Z: h the heap at the call, h' behind it -/
def Q (Z : State) (x : Addr) (A : Cell) (h : Heap) (v : Option Value) (h' : Heap) (L : List Loc) : Prop := v = none ∧ (∀ y ∈ L, y.base = x) ∧ RoadKit.Keep h h' [x] ∧ h'.size = h.size + 1 ∧ RoadKit.Exa Z h' x ST ∧ RoadKit.Fld Z h' x ST "value" "[B" (.ref h.size) ∧ RoadKit.Fld Z h' x ST "coder" "B" (.int 0) ∧
  (∃ V : Cell, RoadKit.Arr Z h' h.size V .byte ∧ V.vm = .none ∧ Z.vm.findClass "[B" = some V.cls ∧ V.slots.size = A.slots.size ∧ ∀ j, j < A.slots.size → V.slots[j]? = some (.int (lo8 (cv A j)))) ∧
  ∀ (O n d : String) (w : Value), RoadKit.Fld Z h x O n d w → RoadKit.slotOf Z O n d ≠ RoadKit.slotOf Z ST "value" "[B" → RoadKit.slotOf Z O n d ≠ RoadKit.slotOf Z ST "coder" "B" → RoadKit.Fld Z h' x O n d w
/-- **new String(chars) AT A CALL, IN THE ROAD'S FORM**: for specialBack behind newO: x the fresh String, b the char[] with the cell A -/
theorem back {p : Program} {l : Launch} {e : Env} {R : Room} {s : State} {args : Array Value} {below : List Frame} {len W : Nat} {Z : State} {a0 : Array Value} {h : Heap} (hZ : Z.Warmed39 s.vm) (hw : ∀ d ∈ words, d.before a0 Z = true) {kI : Nat} (wi : (Jvm.Cond.instantiable ST kI).before a0 Z = true)
    {x b : Addr} {A : Cell} {z : Int32} {v0 c0 : Value} (E : RoadKit.Exa Z h x ST) (V : RoadKit.Fld Z h x ST "value" "[B" v0) (C : RoadKit.Fld Z h x ST "coder" "B" c0) (K : RoadKit.Arr Z h b A .char) (hty : Typed .char A) (S : RoadKit.Sta Z h ST "COMPACT_STRINGS" "Z" (.int z)) (hz : ¬ z = 0)
    (l0 : 0 < A.slots.size) (l2 : A.slots.size ≤ 536870912) (hp : ∀ i, i < A.slots.size → ¬ 255 < cv A i) (hfr : 4 ≤ R.frames) (hlo : W + 65 ≤ R.locals) :
    Back l R p e below s args New1.yN len W (fun P a => a = #[.ref x, .ref b] ∧ P.U.heap = h ∧ P.cells + 1 ≤ R.cells ∧ P.slots + A.slots.size ≤ R.slots)
      (fun P _ v B => ∃ L, Q Z x A h v B.U.heap L ∧ B.locs = P.locs ++ L ∧ B.cells = P.cells + 1 ∧ B.slots = P.slots + A.slots.size) := by
  intro m meth c P g ig mk a X hg hsize hdg hW hn hp'
  obtain ⟨rfl, rfl, r1, r2⟩ := hp'
  have al : Z.vm.Alike P.U.vm := hZ.alike.trans X.warmed.alike
  obtain ⟨D, cfV, kV, iV, fV, hD, gV, stV, knV, obV, asV, slV⟩ := id V
  obtain ⟨D', cfC, kC, iC, fC, hD', gC, stC, -, -, asC, slC⟩ := id C
  cases hD.symm.trans hD'
  obtain ⟨D2, kD, e1, e2, e3, e4, e5⟩ := id E
  cases hD.symm.trans e1
  obtain ⟨c2, k2, i1, i2, i3, -⟩ := Cond.instantiable_spec wi
  cases e2.symm.trans i1
  cases e3.symm.trans i2
  obtain ⟨kU, u1, u2⟩ := al.2.2 _ _ e3
  have hB : Blank ST x D P.U := ⟨hD, ⟨knV, fun q hq => by rw [hq] at obV; cases obV⟩, by rw [al.findClass]; exact e2, kU, u1, by rw [u2]; exact i3, by rw [u2]; exact e5 i3⟩
  have F1 : Found ST "value" "[B" fV P.U := ⟨SBG.found_only al ⟨cfV, kV, iV, gV⟩, stV⟩
  have F2 : Found ST "coder" "B" fC P.U := ⟨SBG.found_only al ⟨cfC, kC, iC, gC⟩, stC⟩
  have hA : Ch b A P.U := ⟨⟨K.1, State.isArrayOf_alike al K.2.1, K.2.2, by omega⟩, hty⟩
  have hS : StaticIs P.U ST "COMPACT_STRINGS" "Z" (.int z) := by
    obtain ⟨cfS, iS, kS, fS, st, cS, t1, t2, t3, t4, t5, t6, t7⟩ := S
    exact StaticIs.there (s := { Z with heap := P.U.heap }) ⟨cfS, iS, kS, fS, st, cS, t1, t2, t3, t4, t5, (fun q => by rw [q] at t6; cases t6), t7⟩ al rfl
  obtain ⟨v, B, X', ⟨⟨hv, E', V', q1, q2, q3, q4, q5, q6, q7, q8, q9, q10, q11⟩, hl, hc, hs⟩, st⟩ := New1.pays x D fV fC b A z (tab_of (moved hZ hw)) hfr hlo m meth c P g ig mk _ X hg hsize hdg hW hn ⟨r1, r2, rfl, hB, F1, F2, hA, hS, hz, l0, l2, hp⟩
  have al' : Z.vm.Alike B.U.vm := hZ.alike.trans X'.warmed.alike
  have hsz : E'.slots.size = D.slots.size := by
    obtain ⟨-, -, -, kB, w1, w2, w3⟩ := q1
    obtain ⟨kB', y1, y2⟩ := al'.2.2 _ _ e3
    rw [q2.2.1] at w1
    cases w1.symm.trans y1
    rw [w3, e5 i3, y2]
  refine ⟨v, B, X', ⟨_, ⟨hv, ?_, ⟨by omega, fun y cy hy hn' => q10 y cy (by simpa using hn') hy, fun y cy hy => ?_⟩, q11, ⟨E', _, q1.1, by rw [q2.2.1]; exact e2, by rw [q2.2.1]; exact e3, by rw [q2.1]; exact obV, fun _ => by rw [hsz]; exact e5 i3⟩,
    ⟨E', cfV, kV, iV, fV, q1.1, gV, stV, by rw [q2.1]; exact knV, by rw [q2.1]; exact obV, by rw [q2.2.1]; exact asV, q3⟩, ⟨E', cfC, kC, iC, fC, q1.1, gC, stC, by rw [q2.1]; exact knV, by rw [q2.1]; exact obV, by rw [q2.2.1]; exact asC, q4⟩,
    ⟨V', ⟨q5.1, State.isArrayOf_alike al'.symm q5.2.1, q5.2.2.1⟩, q6, by rw [← al'.findClass]; exact q7, q8, fun j hj => by have := q9 j hj; rwa [Nat.zero_add] at this⟩, fun O n d w F n1 n2 => ?_⟩, hl, hc, hs⟩, st⟩
  · intro y hy
    simp only [List.mem_cons, List.not_mem_nil, or_false] at hy
    rcases hy with rfl | rfl <;> rfl
  · by_cases q : y = x
    · subst q
      cases hD.symm.trans hy
      exact ⟨E', q1.1, q2.2.1, q2.1, hsz⟩
    · exact ⟨cy, q10 y cy q hy, rfl, rfl, rfl⟩
  · obtain ⟨D3, cf, k, i, f, g1, g2, g3, g4, g5, g6, g7⟩ := F
    cases hD.symm.trans g1
    simp only [RoadKit.slotOf, g2, gV, gC, Option.map_some, Option.getD_some] at n1 n2
    exact ⟨E', cf, k, i, f, q1.1, g2, g3, by rw [q2.1]; exact g4, by rw [q2.1]; exact g5, by rw [q2.2.1]; exact g6, by rw [q2.2.2 f.slot (by simp [n1, n2])]; exact g7⟩
end StrChars.Road
namespace StrChars.Road
open Jvm Sem ClassFile Op Lib Jvm.Stand Jvm.Free Jvm.Free.XT
/-- WHAT COMES BACK, the byte[] as a list of values -/
def QA (Z : State) (x : Addr) (zn : Int32) (cs : List Int32) (h : Heap) (v : Option Value) (h' : Heap) (L : List Loc) : Prop := v = none ∧ (∀ y ∈ L, y.base = x) ∧ RoadKit.Keep h h' [x] ∧ h'.size = h.size + 1 ∧ RoadKit.Exa Z h' x ST ∧ RoadKit.Fld Z h' x ST "value" "[B" (.ref h.size) ∧ RoadKit.Fld Z h' x ST "coder" "B" (.int 0) ∧
  (∃ kb, Z.vm.findClass "[B" = some kb ∧ RoadKit.Arv Z h' h.size kb .byte zn (cs.map fun c => .int (lo8 c)) (.int 0)) ∧
  ∀ (O n d : String) (w : Value), RoadKit.Fld Z h x O n d w → RoadKit.slotOf Z O n d ≠ RoadKit.slotOf Z ST "value" "[B" → RoadKit.slotOf Z O n d ≠ RoadKit.slotOf Z ST "coder" "B" → RoadKit.Fld Z h' x O n d w
/-- **new String(chars) AT A CALL, THE ARRAYS AS LISTS**: the char[] at b holds cs, not empty, no char above 255 -/
theorem backArv {p : Program} {l : Launch} {e : Env} {R : Room} {s : State} {args : Array Value} {below : List Frame} {len W : Nat} {Z : State} {a0 : Array Value} {h : Heap} (hZ : Z.Warmed39 s.vm) (hw : ∀ d ∈ words, d.before a0 Z = true) {kI : Nat} (wi : (Jvm.Cond.instantiable ST kI).before a0 Z = true)
    {x b : Addr} {k : ClassId} {zn z : Int32} {cs : List Int32} {dv v0 c0 : Value} (E : RoadKit.Exa Z h x ST) (V : RoadKit.Fld Z h x ST "value" "[B" v0) (C : RoadKit.Fld Z h x ST "coder" "B" c0) (K : RoadKit.Arv Z h b k .char zn (cs.map Value.int) dv) (S : RoadKit.Sta Z h ST "COMPACT_STRINGS" "Z" (.int z)) (hz : ¬ z = 0)
    (hlen : zn.toNatClampNeg = cs.length) (h0 : 0 < cs.length) (hbig : cs.length ≤ 536870912) (hall : ∀ c ∈ cs, ¬ 255 < c) (hfr : 4 ≤ R.frames) (hlo : W + 65 ≤ R.locals) :
    Back l R p e below s args New1.yN len W (fun P a => a = #[.ref x, .ref b] ∧ P.U.heap = h ∧ P.cells + 1 ≤ R.cells ∧ P.slots + cs.length ≤ R.slots)
      (fun P _ v B => ∃ L, QA Z x zn cs h v B.U.heap L ∧ B.locs = P.locs ++ L ∧ B.cells = P.cells + 1 ∧ B.slots = P.slots + cs.length) := by
  obtain ⟨A, K1, K2, K3, K4, K5, K6⟩ := K
  have e : A.slots.size = cs.length := K3.trans hlen
  have hat : ∀ (i : Nat) (hi : i < cs.length), A.slots[i]? = some (.int cs[i]) := fun i hi => by rw [K5 i (by omega)]; simp [List.getD_eq_getElem?_getD, hi]
  have hcv : ∀ (i : Nat) (hi : i < cs.length), cv A i = cs[i] := fun i hi => by unfold cv; rw [hat i hi]
  have hty : Typed .char A := fun i v hv => by
    have hi : i < A.slots.size := (Array.getElem?_eq_some_iff.mp hv).1
    have q := K5 i hi
    rw [hv] at q
    rw [Option.some.inj q]
    exact K6 i hi
  refine Back.mono (back hZ hw wi E V C K1 hty S hz (by omega) (by omega) (fun i hi => by rw [hcv i (by omega)]; exact hall _ (List.getElem_mem _)) hfr hlo) (fun P a hp => ⟨hp.1, hp.2.1, hp.2.2.1, by rw [e]; exact hp.2.2.2⟩) (fun P a v B hp hq => ?_)
  obtain ⟨L, ⟨q1, q2, q3, q4, q5, q6, q7, ⟨V', v1, v2, v3, v4, v5⟩, q9⟩, hl, hc, hs⟩ := hq
  refine ⟨L, ⟨q1, q2, q3, q4, q5, q6, q7, ⟨V'.cls, v3, V', v1, rfl, by rw [v4, e, hlen], K4, fun i hi => ?_, fun i hi => ?_⟩, q9⟩, hl, hc, by rw [hs, e]⟩
  · have hi' : i < cs.length := by omega
    rw [v5 i (by omega), hcv i hi']; simp [List.getD_eq_getElem?_getD, hi']
  · have hi' : i < cs.length := by omega
    simp only [List.getD_eq_getElem?_getD, List.getElem?_map, List.getElem?_eq_getElem hi', Option.map_some, Option.getD_some]
    exact fits_lo8 _
end StrChars.Road
namespace StrChars.Road
open Jvm Sem ClassFile Op Lib Jvm.Stand Jvm.Free Jvm.Free.XT
/-- WHAT COMES BACK, in the writer's own shape -/
def QV (Z : State) (x : Addr) (N : Int32) (bs : List Int32) (h : Heap) (n0 : Nat) (v : Option Value) (h' : Heap) (L : List Loc) : Prop := v = none ∧ RoadKit.Fr n0 L ∧ RoadKit.Keep h h' [x] ∧ RoadKit.Exa Z h' x ST ∧ RoadKit.Fld Z h' x ST "coder" "B" (.int 0) ∧
  ∃ (t : Addr) (kb : ClassId), n0 ≤ t ∧ h.size ≤ t ∧ ¬ t = x ∧ RoadKit.Fld Z h' x ST "value" "[B" (.ref t) ∧ RoadKit.Arv Z h' t kb .byte N (bs.map Value.int) (.int 0)
/-- **new String(chars) AT A CALL, FOR THE WRITER**: a char[] of n known ints, each 0 to 255 -/
theorem backV {p : Program} {l : Launch} {e : Env} {R : Room} {s : State} {args : Array Value} {below : List Frame} {len W : Nat} {Z : State} {a0 : Array Value} {h : Heap} (hZ : Z.Warmed39 s.vm) (hw : ∀ d ∈ words, d.before a0 Z = true) {kI : Nat} (wi : (Jvm.Cond.instantiable ST kI).before a0 Z = true)
    {x b : Addr} {kC : ClassId} {cs bs : List Int32} {d v0 c0 : Value} {z N : Int32} {n n0 : Nat} (hx0 : n0 ≤ x) (hh0 : n0 ≤ h.size) (E : RoadKit.Exa Z h x ST) (V : RoadKit.Fld Z h x ST "value" "[B" v0) (C : RoadKit.Fld Z h x ST "coder" "B" c0) (K : RoadKit.Arv Z h b kC .char N (cs.map Value.int) d) (S : RoadKit.Sta Z h ST "COMPACT_STRINGS" "Z" (.int z)) (hz : ¬ z = 0)
    (hn : cs.length = n) (hN : N = Int32.ofNat n) (l0 : 0 < n) (l2 : n ≤ 4000) (hp : ∀ c ∈ cs, ¬ c < 0 ∧ ¬ (255 : Int32) < c) (hb : bs = cs.map (fun c => c.toInt8.toInt32)) (hfr : 4 ≤ R.frames) (hlo : W + 65 ≤ R.locals) :
    Back l R p e below s args (⟨"java/lang/String", "<init>", "([C)V"⟩ : MethodName) len W (fun P a => a = #[.ref x, .ref b] ∧ P.U.heap = h ∧ P.cells + 1 ≤ R.cells ∧ P.slots + n ≤ R.slots)
      (fun P _ v B => ∃ L, QV Z x N bs h n0 v B.U.heap L ∧ B.locs = P.locs ++ L ∧ B.cells = P.cells + 1 ∧ B.slots = P.slots + n) := by
  subst hn hN hb
  refine Back.mono (backArv hZ hw wi E V C K S hz (n32 (by omega)) l0 (by omega) (fun c hc => (hp c hc).2) hfr hlo) (fun P a hp => hp) (fun P a v B hp hq => ?_)
  obtain ⟨L, ⟨q1, q2, q3, q4, q5, q6, q7, ⟨kb, v1, v2⟩, q9⟩, hl, hc, hs⟩ := hq
  exact ⟨L, ⟨q1, fun y hy => by rw [q2 y hy]; exact hx0, q3, q5, q7, h.size, kb, hh0, Nat.le_refl _, Nat.ne_of_gt E.lt, q6, by rw [List.map_map]; exact v2⟩, hl, hc, hs⟩
end StrChars.Road
end Jvm.Pilot.@@N@@
namespace Jvm.Pilot.@@N@@
open Jvm Jvm.ClassFile Sem Op Lib Jvm.Free Jvm.Stand Jvm.LawKit Jvm.RoadKit Bundle Jvm.Own Jvm.Pilot.@@N@@.Jvm.D
section
variable {p : Program} {l : Launch} {e : Env} {R : Room} {s : State} {m : MethodId} {args : Array Value} {below : List Frame} {meth : Method} {c : Code} {Z : State} {a0 : Array Value} {h h' : Heap} {k n k' n' : Nat} {Q : Option Value → Heap → Prop} {code : ByteArray} {ml : Nat} {own nm : String} {ret : Option FieldType} {pc pc' : Nat} {Ls : Array Slot} {St rest : List Value} {idx W : Nat}
theorem strWords (hw : ∀ d ∈ tables_1, d.before a0 Z = true) : ∀ d ∈ StrChars.Road.words, d.before a0 Z = true := fun d hd => hw d ((by decide +kernel : ∀ d ∈ StrChars.Road.words, d ∈ tables_1) d hd)
/-- the call of String.<init>([C) on the fresh object x -/
theorem Go.strInit (hw : ∀ d ∈ tables_1, d.before a0 Z = true) (C : Cx p s m meth c code ml ret nm own Z) {x b : Addr} {kC : ClassId} {cs : List Int32} {d v0 c0 : Value} {z N : Int32} {nn kI : Nat} (hx0 : Z.heap.size ≤ x) (E : Exa Z h x "java/lang/String") (V : Fld Z h x "java/lang/String" "value" "[B" v0) (Cd : Fld Z h x "java/lang/String" "coder" "B" c0)
    (Ka : Arv Z h b kC .char N (cs.map Value.int) d) (S : Sta Z Z.heap "java/lang/String" "COMPACT_STRINGS" "Z" (.int z)) (hz : ¬ z = 0) (hn : cs.length = nn) (hN : N = Int32.ofNat nn) (l0 : 0 < nn) (l2 : nn ≤ 4000) (hpr : ∀ c ∈ cs, ¬ c < 0 ∧ ¬ (255 : Int32) < c)
    (wI : (Jvm.Cond.instantiable "java/lang/String" kI).before a0 Z = true) (wl : (Jvm.Cond.methodLink own idx ⟨"java/lang/String", "<init>", "([C)V"⟩).before a0 Z = true) (wi : (Jvm.Cond.instanceMethod ⟨"java/lang/String", "<init>", "([C)V"⟩).before a0 Z = true)
    (hd : decode code pc = .ok (.invokespecial idx, 3)) (hp : pc + 3 = pc') (hs : Ls.size = ml) (hW : (rest.map fun v => v.category).sum ≤ W) (hf : 4 ≤ R.frames) (hlo : W + 65 ≤ R.locals) (hk : k + 1 = k') (hnn : n + nn = n') (hc : k' ≤ R.cells) (hsl : n' ≤ R.slots)
    (K : ∀ h', Keep h h' [x] → Str Z h' x cs → Go p l e R s m args below meth c Z Q h' k' n' (mkF m pc' Ls rest)) : Go p l e R s m args below meth c Z Q h k n (mkF m pc Ls (.ref b :: .ref x :: rest)) := by
  have hws := strWords hw
  refine Go.specialB C (a := x) (Q' := fun v h' => v = none ∧ Keep h h' [x] ∧ Str Z h' x cs) (fun s' hZ hE => StrChars.Road.backV (W := W) (n0 := Z.heap.size) hZ hws wI hx0 hE.1 E V Cd Ka (S.ext hE) hz hn hN l0 l2 hpr (bs := cs.map fun c => c.toInt8.toInt32) rfl hf hlo) ?_ rfl wl wi (hws _ (List.mem_cons_self ..)) (by decide) (ps := [.array .char]) (rt := none) (by decide +kernel) (argsL := [.ref b]) (rest := rest) rfl rfl hd hp hs rfl hW hk hnn hc hsl ?_
  · rintro v h' L hE ⟨rfl, hF, hK, hEx, hCo, t, kb, ht, ht2, hne, hV, hA⟩
    refine ⟨⟨rfl, hK, t, kb, hne, hEx, hCo, hV, ?_, hpr, by omega⟩, ext_keep1 hE hK hx0, hF⟩
    rw [hn, ← hN]; exact hA
  · rintro v h' ⟨rfl, hK, hS⟩
    exact K h' hK hS
end
end Jvm.Pilot.@@N@@
namespace Jvm.Pilot.@@N@@
open Jvm Jvm.ClassFile Sem Op Lib Jvm.Free Jvm.Stand Jvm.LawKit Jvm.RoadKit Bundle Jvm.Own Jvm.Pilot.@@N@@.Jvm.D
theorem pd_0 : parseMethodDescriptor "(Ljava/lang/Object;)Ljava/lang/Object;" = some ⟨[(.object "java/lang/Object")], some (.object "java/lang/Object")⟩ := by decide +kernel
theorem pd_1 : parseMethodDescriptor "(Ljava/lang/Object;)V" = some ⟨[(.object "java/lang/Object")], none⟩ := by decide +kernel
theorem pd_2 : parseMethodDescriptor "(C)Z" = some ⟨[.char], some .boolean⟩ := by decide +kernel
theorem pd_3 : parseMethodDescriptor "(C)[B" = some ⟨[.char], some (.array .byte)⟩ := by decide +kernel
theorem pd_4 : parseMethodDescriptor "([BB)V" = some ⟨[(.array .byte), .byte], none⟩ := by decide +kernel
theorem pd_5 : parseMethodDescriptor "()V" = some ⟨[], none⟩ := by decide +kernel
theorem pd_6 : parseMethodDescriptor "(Ljava/lang/Object;)Ljava/util/Optional;" = some ⟨[(.object "java/lang/Object")], some (.object "java/util/Optional")⟩ := by decide +kernel
theorem pd_7 : parseMethodDescriptor "(Ljava/lang/String;Ljava/lang/String;Ljava/lang/String;Ljava/lang/String;Lcom/example/tejuelo/tejuelo/core/Verdict;Ljava/util/Optional;)V" = some ⟨[(.object "java/lang/String"), (.object "java/lang/String"), (.object "java/lang/String"), (.object "java/lang/String"), (.object "com/example/tejuelo/tejuelo/core/Verdict"), (.object "java/util/Optional")], none⟩ := by decide +kernel
theorem pd_8 : parseMethodDescriptor "(JI)C" = some ⟨[.long, .int], some .char⟩ := by decide +kernel
theorem pd_9 : parseMethodDescriptor "(CC)Ljava/lang/String;" = some ⟨[.char, .char], some (.object "java/lang/String")⟩ := by decide +kernel
theorem pd_10 : parseMethodDescriptor "(Ljava/lang/CharSequence;)Lcom/example/tejuelo/tejuelo/core/Finding;" = some ⟨[(.object "java/lang/CharSequence")], some (.object "com/example/tejuelo/tejuelo/core/Finding")⟩ := by decide +kernel
theorem pd_11 : parseMethodDescriptor "()Ljava/util/Optional;" = some ⟨[], some (.object "java/util/Optional")⟩ := by decide +kernel
theorem pd_12 : parseMethodDescriptor "()Ljava/lang/String;" = some ⟨[], some (.object "java/lang/String")⟩ := by decide +kernel
theorem pd_13 : parseMethodDescriptor "(Ljava/lang/Object;)Z" = some ⟨[(.object "java/lang/Object")], some .boolean⟩ := by decide +kernel
theorem pd_14 : parseMethodDescriptor "()Lcom/example/tejuelo/tejuelo/core/Verdict;" = some ⟨[], some (.object "com/example/tejuelo/tejuelo/core/Verdict")⟩ := by decide +kernel
theorem pd_15 : parseMethodDescriptor "()Z" = some ⟨[], some .boolean⟩ := by decide +kernel
theorem pd_16 : parseMethodDescriptor "()Ljava/lang/Object;" = some ⟨[], some (.object "java/lang/Object")⟩ := by decide +kernel
theorem pd_17 : parseMethodDescriptor "(C)Ljava/lang/String;" = some ⟨[.char], some (.object "java/lang/String")⟩ := by decide +kernel
def chv (x : Int64) (i : Int32) : Int32 := nar .char (((((x.toUInt64 >>> (i &&& 0x3f).toInt64.toUInt64).toInt64) &&& (255 : Int64)).toInt32).toUInt32.toUInt16.toUInt32.toInt32)
theorem chv_rng (x : Int64) (i : Int32) : ¬ chv x i < 0 ∧ ¬ (255 : Int32) < chv x i := by
  unfold chv
  generalize ((x.toUInt64 >>> (i &&& 0x3f).toInt64.toUInt64).toInt64) = y
  have h1 := c_maskL y 255 8 (by decide) (by decide)
  have h2 := c_l2i (y &&& 255)
  have h3 := rng32 ((y &&& 255).toInt32)
  have e0 : (0 : Int32).toInt = 0 := rfl
  have e1 : (255 : Int32).toInt = 255 := rfl
  have h4 : (y &&& 255).toInt32.toInt = (y &&& 255).toInt := by omega
  have r : ¬ (y &&& 255).toInt32 < 0 ∧ ¬ (255 : Int32) < (y &&& 255).toInt32 := by simp only [Int32.lt_iff_toInt_lt]; constructor <;> omega
  show ¬ ((y &&& 255).toInt32.toUInt32.toUInt16.toUInt32.toInt32).toUInt32.toUInt16.toUInt32.toInt32 < 0 ∧ ¬ (255 : Int32) < ((y &&& 255).toInt32.toUInt32.toUInt16.toUInt32.toInt32).toUInt32.toUInt16.toUInt32.toInt32
  rw [i2c_id r, i2c_id r]; exact r
theorem nar_rng {x : Int32} (h : ¬ x < 0 ∧ ¬ (255 : Int32) < x) : nar .char x = x := i2c_id h
theorem two_rng {x y : Int32} (h : ¬ x < 0 ∧ ¬ (255 : Int32) < x) (h' : ¬ y < 0 ∧ ¬ (255 : Int32) < y) : ∀ c ∈ [x, y], ¬ c < 0 ∧ ¬ (255 : Int32) < c := by
  intro c hc
  simp only [List.mem_cons, List.not_mem_nil, or_false] at hc
  rcases hc with rfl | rfl
  · exact h
  · exact h'
theorem pick5 (x : Int32) (e0 e1 e2 e3 e4 : Addr) : ∃ v : Addr, (¬ ((x &&& (2147483647 : Int32)) % (5 : Int32)) < 0 ∧ ((x &&& (2147483647 : Int32)) % (5 : Int32)) < 5) ∧ ([.ref e0, .ref e1, .ref e2, .ref e3, .ref e4] : List Value).getD ((x &&& (2147483647 : Int32)) % (5 : Int32)).toNatClampNeg .null = .ref v := by
  have h1 := c_mask x 2147483647 31 (by decide) (by decide)
  have h2 := (c_irem (x &&& 2147483647) 5 5 (by decide)).1 (by rw [h1]; omega)
  generalize ((x &&& (2147483647 : Int32)) % (5 : Int32)) = j at h2
  have hj : j = 0 ∨ j = 1 ∨ j = 2 ∨ j = 3 ∨ j = 4 := by
    have e0 : (0 : Int32).toInt = 0 := rfl
    have e1 : (1 : Int32).toInt = 1 := rfl
    have e2 : (2 : Int32).toInt = 2 := rfl
    have e3 : (3 : Int32).toInt = 3 := rfl
    have e4 : (4 : Int32).toInt = 4 := rfl
    simp only [← Int32.toInt_inj, e0, e1, e2, e3, e4]; omega
  rcases hj with rfl | rfl | rfl | rfl | rfl
  · exact ⟨e0, by decide, rfl⟩
  · exact ⟨e1, by decide, rfl⟩
  · exact ⟨e2, by decide, rfl⟩
  · exact ⟨e3, by decide, rfl⟩
  · exact ⟨e4, by decide, rfl⟩
theorem eq_I0 {args : Array Value} {first s : State} {o : Option Outcome} {idx : List Nat} {t : Term} {z : Int32} (h : t.eval args first o idx s = some (.int z)) : (Jvm.Cond.eq t (.int 0)).value args first o s idx = some (decide (z = 0)) := by
  have e2 : (Term.int 0).eval args first o idx s = some (.int 0) := Term.int_eval 0
  simp [Jvm.Cond.value, h, e2]
theorem d_rec_0 : decode jdk_30_method_1_code 0 = .ok (.aload_n 0, 1) := by decide +kernel
theorem d_rec_1 : decode jdk_30_method_1_code 1 = .ok (.invokespecial 1, 3) := by decide +kernel
theorem d_rec_4 : decode jdk_30_method_1_code 4 = .ok (.return_, 1) := by decide +kernel
theorem pn_rec : plainName "java/lang/Record" = true := by first | (simp [plainName, overriddenIn]; done) | decide +kernel
theorem ef_rec (m : MethodId) (x0 : Addr)  : entryFrame m #[(.ref x0)] 1 = mkF m 0 #[.val (.ref x0)] [] := by first | (simp [entryFrame, mkF, argsToLocals, Value.category]; done) | rfl
set_option maxRecDepth 65536 in
set_option maxHeartbeats 40000000 in
theorem P_rec (l : Launch) (Z : State) (a0 : Array Value) (hw : ∀ d ∈ tables_1, d.before a0 Z = true) (a : Addr) (h0 : Heap)  :
    Pays l Z (⟨"java/lang/Record", "<init>", "()V"⟩ : MethodName) jdk_30_method_1_code 1 none ({ frames := 1, cells := 0, slots := 0, locals := 12 } : Room) #[(.ref a)] h0 (fun v h => v = none ∧ h0 = h) := by
  refine pays_of_go (plainFor_of_name pn_rec) (fun m => ef_rec m a) ?_
  intro p e s m below meth c C0
  have C : Cx p s m meth c jdk_30_method_1_code 1 none "<init>" "java/lang/Record" Z := C0
  show Go p l e ({ frames := 1, cells := 0, slots := 0, locals := 12 } : Room) s m #[(.ref a)] below meth c Z (fun v h => v = none ∧ h0 = h) h0 0 0 (mkF m 0 #[.val (.ref a)] [])
  refine Go.plain (g' := (mkF m 1 #[.val (.ref a)] [(.ref a)])) (fun T_ L_ X_ t_ q_ => XS.aloadN X_.here C.hx rfl (C.d d_rec_0) rfl rfl q_) ?_
  refine Go.initO C (hw _ (List.mem_of_getElem? (i := 69) rfl)) (hw _ (List.mem_of_getElem? (i := 20) rfl)) (hw _ (List.mem_of_getElem? (i := 21) rfl)) d_rec_1 (pc' := 4) rfl rfl (by decide) (W := 0) (Nat.le_of_eq rfl) (by decide) ?_
  exact Go.retV C d_rec_4 (by decide) (by decide) ⟨rfl, rfl⟩
theorem d_opi_0 : decode jdk_32_method_2_code 0 = .ok (.aload_n 0, 1) := by decide +kernel
theorem d_opi_1 : decode jdk_32_method_2_code 1 = .ok (.invokespecial 7, 3) := by decide +kernel
theorem d_opi_4 : decode jdk_32_method_2_code 4 = .ok (.aload_n 0, 1) := by decide +kernel
theorem d_opi_5 : decode jdk_32_method_2_code 5 = .ok (.aload_n 1, 1) := by decide +kernel
theorem d_opi_6 : decode jdk_32_method_2_code 6 = .ok (.putfield 13, 3) := by decide +kernel
theorem d_opi_9 : decode jdk_32_method_2_code 9 = .ok (.return_, 1) := by decide +kernel
theorem pn_opi : plainName "java/util/Optional" = true := by first | (simp [plainName, overriddenIn]; done) | decide +kernel
theorem ef_opi (m : MethodId) (x0 : Addr) (x1 : Addr)  : entryFrame m #[(.ref x0), (.ref x1)] 2 = mkF m 0 #[.val (.ref x0), .val (.ref x1)] [] := by first | (simp [entryFrame, mkF, argsToLocals, Value.category]; done) | rfl
set_option maxRecDepth 65536 in
set_option maxHeartbeats 40000000 in
theorem P_opi (l : Launch) (Z : State) (a0 : Array Value) (hw : ∀ d ∈ tables_1, d.before a0 Z = true) (a b : Addr) (h0 : Heap) (E : Exa Z h0 a "java/util/Optional") (F : Fld Z h0 a "java/util/Optional" "value" "Ljava/lang/Object;" .null) (ge : Z.heap.size ≤ a) :
    Pays l Z (⟨"java/util/Optional", "<init>", "(Ljava/lang/Object;)V"⟩ : MethodName) jdk_32_method_2_code 2 none ({ frames := 1, cells := 0, slots := 0, locals := 12 } : Room) #[(.ref a), (.ref b)] h0 (fun v h => v = none ∧ Wr h0 h a (Jvm.RoadKit.slotOf Z "java/util/Optional" "value" "Ljava/lang/Object;") (.ref b)) := by
  refine pays_of_go (plainFor_of_name pn_opi) (fun m => ef_opi m a b) ?_
  intro p e s m below meth c C0
  have C : Cx p s m meth c jdk_32_method_2_code 2 none "<init>" "java/util/Optional" Z := C0
  show Go p l e ({ frames := 1, cells := 0, slots := 0, locals := 12 } : Room) s m #[(.ref a), (.ref b)] below meth c Z (fun v h => v = none ∧ Wr h0 h a (Jvm.RoadKit.slotOf Z "java/util/Optional" "value" "Ljava/lang/Object;") (.ref b)) h0 0 0 (mkF m 0 #[.val (.ref a), .val (.ref b)] [])
  refine Go.plain (g' := (mkF m 1 #[.val (.ref a), .val (.ref b)] [(.ref a)])) (fun T_ L_ X_ t_ q_ => XS.aloadN X_.here C.hx rfl (C.d d_opi_0) rfl rfl q_) ?_
  refine Go.initO C (hw _ (List.mem_of_getElem? (i := 101) rfl)) (hw _ (List.mem_of_getElem? (i := 20) rfl)) (hw _ (List.mem_of_getElem? (i := 21) rfl)) d_opi_1 (pc' := 4) rfl rfl (by decide) (W := 0) (Nat.le_of_eq rfl) (by decide) ?_
  refine Go.plain (g' := (mkF m 5 #[.val (.ref a), .val (.ref b)] [(.ref a)])) (fun T_ L_ X_ t_ q_ => XS.aloadN X_.here C.hx rfl (C.d d_opi_4) rfl rfl q_) ?_
  refine Go.plain (g' := (mkF m 6 #[.val (.ref a), .val (.ref b)] [(.ref b), (.ref a)])) (fun T_ L_ X_ t_ q_ => XS.aloadN X_.here C.hx rfl (C.d d_opi_5) rfl rfl q_) ?_
  refine Go.putF C (host := "") (Or.inl (hw _ (List.mem_of_getElem? (i := 102) rfl))) Via.refl F E (Or.inr ⟨(hw _ (List.mem_of_getElem? (i := 103) rfl)), rfl, rfl⟩) (hw _ (List.mem_of_getElem? (i := 92) rfl)) (ty := (.object "java/lang/Object")) (by decide) rfl rfl ge d_opi_6 (pc' := 9) rfl ?_
  intro h1 W1
  exact Go.retV C d_opi_9 (by decide) (by decide) ⟨rfl, W1⟩
theorem d_rnn_0 : decode jdk_31_method_10_code 0 = .ok (.aload_n 0, 1) := by decide +kernel
theorem d_rnn_1 : decode jdk_31_method_10_code 1 = .ok (.ifnonnull 11, 3) := by decide +kernel
theorem d_rnn_12 : decode jdk_31_method_10_code 12 = .ok (.aload_n 0, 1) := by decide +kernel
theorem d_rnn_13 : decode jdk_31_method_10_code 13 = .ok (.areturn, 1) := by decide +kernel
theorem pn_rnn : plainName "java/util/Objects" = true := by first | (simp [plainName, overriddenIn]; done) | decide +kernel
theorem ef_rnn (m : MethodId) (x0 : Addr)  : entryFrame m #[(.ref x0)] 1 = mkF m 0 #[.val (.ref x0)] [] := by first | (simp [entryFrame, mkF, argsToLocals, Value.category]; done) | rfl
set_option maxRecDepth 65536 in
set_option maxHeartbeats 40000000 in
theorem P_rnn (l : Launch) (Z : State) (a0 : Array Value) (hw : ∀ d ∈ tables_1, d.before a0 Z = true) (b : Addr) (h0 : Heap)  :
    Pays l Z (⟨"java/util/Objects", "requireNonNull", "(Ljava/lang/Object;)Ljava/lang/Object;"⟩ : MethodName) jdk_31_method_10_code 1 (some (.object "java/lang/Object")) ({ frames := 0, cells := 0, slots := 0, locals := 0 } : Room) #[(.ref b)] h0 (fun v h => v = some (.ref b) ∧ h0 = h) := by
  refine pays_of_go (plainFor_of_name pn_rnn) (fun m => ef_rnn m b) ?_
  intro p e s m below meth c C0
  have C : Cx p s m meth c jdk_31_method_10_code 1 (some (.object "java/lang/Object")) "requireNonNull" "java/util/Objects" Z := C0
  show Go p l e ({ frames := 0, cells := 0, slots := 0, locals := 0 } : Room) s m #[(.ref b)] below meth c Z (fun v h => v = some (.ref b) ∧ h0 = h) h0 0 0 (mkF m 0 #[.val (.ref b)] [])
  refine Go.plain (g' := (mkF m 1 #[.val (.ref b)] [(.ref b)])) (fun T_ L_ X_ t_ q_ => XS.aloadN X_.here C.hx rfl (C.d d_rnn_0) rfl rfl q_) ?_
  refine Go.plain (g' := (mkF m 12 #[.val (.ref b)] [])) (fun T_ L_ X_ t_ q_ => XS.ifnonnullYes X_.here C.hx rfl (pc0 := 1) (pc' := 12) rfl (C.d d_rnn_1) rfl (by decide) (by decide) q_) ?_
  refine Go.plain (g' := (mkF m 13 #[.val (.ref b)] [(.ref b)])) (fun T_ L_ X_ t_ q_ => XS.aloadN X_.here C.hx rfl (C.d d_rnn_12) rfl rfl q_) ?_
  exact Go.retA C rfl rfl rfl d_rnn_13 (by decide) (by decide) ⟨rfl, rfl⟩
theorem d_opof_0 : decode jdk_32_method_3_code 0 = .ok (.new 2, 3) := by decide +kernel
theorem d_opof_3 : decode jdk_32_method_3_code 3 = .ok (.dup, 1) := by decide +kernel
theorem d_opof_4 : decode jdk_32_method_3_code 4 = .ok (.aload_n 0, 1) := by decide +kernel
theorem d_opof_5 : decode jdk_32_method_3_code 5 = .ok (.invokestatic 17, 3) := by decide +kernel
theorem d_opof_8 : decode jdk_32_method_3_code 8 = .ok (.invokespecial 23, 3) := by decide +kernel
theorem d_opof_11 : decode jdk_32_method_3_code 11 = .ok (.areturn, 1) := by decide +kernel
theorem pn_opof : plainName "java/util/Optional" = true := by first | (simp [plainName, overriddenIn]; done) | decide +kernel
theorem ef_opof (m : MethodId) (x0 : Addr)  : entryFrame m #[(.ref x0)] 1 = mkF m 0 #[.val (.ref x0)] [] := by first | (simp [entryFrame, mkF, argsToLocals, Value.category]; done) | rfl
set_option maxRecDepth 65536 in
set_option maxHeartbeats 40000000 in
theorem P_opof (l : Launch) (Z : State) (a0 : Array Value) (hw : ∀ d ∈ tables_1, d.before a0 Z = true) (b : Addr) (h0 : Heap)  :
    Pays l Z (⟨"java/util/Optional", "of", "(Ljava/lang/Object;)Ljava/util/Optional;"⟩ : MethodName) jdk_32_method_3_code 1 (some (.object "java/util/Optional")) ({ frames := 2, cells := 1, slots := 1, locals := 26 } : Room) #[(.ref b)] h0 (fun v h => ∃ a, v = some (.ref a) ∧ Z.heap.size ≤ a ∧ Ext h0 h ∧ Exa Z h a "java/util/Optional" ∧ Fld Z h a "java/util/Optional" "value" "Ljava/lang/Object;" (.ref b)) := by
  refine pays_of_go (plainFor_of_name pn_opof) (fun m => ef_opof m b) ?_
  intro p e s m below meth c C0
  have C : Cx p s m meth c jdk_32_method_3_code 1 (some (.object "java/util/Optional")) "of" "java/util/Optional" Z := C0
  show Go p l e ({ frames := 2, cells := 1, slots := 1, locals := 26 } : Room) s m #[(.ref b)] below meth c Z (fun v h => ∃ a, v = some (.ref a) ∧ Z.heap.size ≤ a ∧ Ext h0 h ∧ Exa Z h a "java/util/Optional" ∧ Fld Z h a "java/util/Optional" "value" "Ljava/lang/Object;" (.ref b)) h0 0 0 (mkF m 0 #[.val (.ref b)] [])
  refine Go.new C (hw _ (List.mem_of_getElem? (i := 91) rfl)) (hw _ (List.mem_of_getElem? (i := 92) rfl)) (hw _ (List.mem_of_getElem? (i := 55) rfl)) d_opof_0 (pc' := 3) rfl (k' := 1) (n' := 1) rfl rfl (by decide) (by decide) ?_
  intro a h1 q_a z_a E_a A_a D_a
  have F0 : Fld Z h1 a "java/util/Optional" "value" "Ljava/lang/Object;" .null := D_a (Or.inr (hw _ (List.mem_of_getElem? (i := 103) rfl))) (ty := (.object "java/lang/Object")) (by decide)
  refine Go.plain (g' := (mkF m 4 #[.val (.ref b)] [(.ref a), (.ref a)])) (fun T_ L_ X_ t_ q_ => XS.dup X_.here C.hx rfl (C.d d_opof_3) rfl rfl q_) ?_
  refine Go.plain (g' := (mkF m 5 #[.val (.ref b)] [(.ref b), (.ref a), (.ref a)])) (fun T_ L_ X_ t_ q_ => XS.aloadN X_.here C.hx rfl (C.d d_opof_4) rfl rfl q_) ?_
  refine Go.static C (P_rnn l Z a0 hw b h1) (hw _ (List.mem_of_getElem? (i := 93) rfl)) (hw _ (List.mem_of_getElem? (i := 94) rfl)) (hw _ (List.mem_of_getElem? (i := 95) rfl)) (hw _ (List.mem_of_getElem? (i := 96) rfl)) (by decide) pd_0 (argsL := [(.ref b)]) (rest := [(.ref a), (.ref a)]) rfl rfl d_opof_5 (pc' := 8) rfl rfl rfl (W := 2) (Nat.le_of_eq rfl) (by decide) (by decide) (k' := 1) (n' := 1) rfl rfl (by decide) (by decide) ?_
  rintro _ _ ⟨rfl, rfl⟩
  show Go p l e ({ frames := 2, cells := 1, slots := 1, locals := 26 } : Room) s m #[(.ref b)] below meth c Z (fun v h => ∃ a, v = some (.ref a) ∧ Z.heap.size ≤ a ∧ Ext h0 h ∧ Exa Z h a "java/util/Optional" ∧ Fld Z h a "java/util/Optional" "value" "Ljava/lang/Object;" (.ref b)) h1 1 1 (mkF m 8 #[.val (.ref b)] [(.ref b), (.ref a), (.ref a)])
  refine Go.special C (a := a) (P_opi l Z a0 hw a b h1 A_a F0 z_a) rfl (hw _ (List.mem_of_getElem? (i := 97) rfl)) (hw _ (List.mem_of_getElem? (i := 98) rfl)) (hw _ (List.mem_of_getElem? (i := 55) rfl)) (hw _ (List.mem_of_getElem? (i := 100) rfl)) (by decide) pd_1 (argsL := [(.ref b)]) (rest := [(.ref a)]) rfl rfl d_opof_8 (pc' := 11) rfl rfl rfl (W := 1) (Nat.le_of_eq rfl) (by decide) (by decide) (k' := 1) (n' := 1) rfl rfl (by decide) (by decide) ?_
  rintro _ h9 ⟨rfl, W1⟩
  show Go p l e ({ frames := 2, cells := 1, slots := 1, locals := 26 } : Room) s m #[(.ref b)] below meth c Z (fun v h => ∃ a, v = some (.ref a) ∧ Z.heap.size ≤ a ∧ Ext h0 h ∧ Exa Z h a "java/util/Optional" ∧ Fld Z h a "java/util/Optional" "value" "Ljava/lang/Object;" (.ref b)) h9 1 1 (mkF m 11 #[.val (.ref b)] [(.ref a)])
  exact Go.retA C rfl rfl rfl d_opof_11 (by decide) (by decide) ⟨a, rfl, z_a, ext_wr E_a W1 (Nat.le_of_eq q_a.symm), A_a.wr W1, F0.same W1⟩
theorem d_opem_0 : decode jdk_32_method_1_code 0 = .ok (.getstatic 1, 3) := by decide +kernel
theorem d_opem_3 : decode jdk_32_method_1_code 3 = .ok (.astore_n 0, 1) := by decide +kernel
theorem d_opem_4 : decode jdk_32_method_1_code 4 = .ok (.aload_n 0, 1) := by decide +kernel
theorem d_opem_5 : decode jdk_32_method_1_code 5 = .ok (.areturn, 1) := by decide +kernel
theorem pn_opem : plainName "java/util/Optional" = true := by first | (simp [plainName, overriddenIn]; done) | decide +kernel
theorem ef_opem (m : MethodId)   : entryFrame m #[] 1 = mkF m 0 #[.unset] [] := by first | (simp [entryFrame, mkF, argsToLocals, Value.category]; done) | rfl
set_option maxRecDepth 65536 in
set_option maxHeartbeats 40000000 in
theorem P_opem (l : Launch) (Z : State) (a0 : Array Value) (hw : ∀ d ∈ tables_1, d.before a0 Z = true) (em : Addr) (h0 : Heap) (SE : Sta Z Z.heap "java/util/Optional" "EMPTY" "Ljava/util/Optional;" (.ref em)) :
    Pays l Z (⟨"java/util/Optional", "empty", "()Ljava/util/Optional;"⟩ : MethodName) jdk_32_method_1_code 1 (some (.object "java/util/Optional")) ({ frames := 0, cells := 0, slots := 0, locals := 0 } : Room) #[] h0 (fun v h => v = some (.ref em) ∧ h0 = h) := by
  refine pays_of_go (plainFor_of_name pn_opem) (fun m => ef_opem m ) ?_
  intro p e s m below meth c C0
  have C : Cx p s m meth c jdk_32_method_1_code 1 (some (.object "java/util/Optional")) "empty" "java/util/Optional" Z := C0
  show Go p l e ({ frames := 0, cells := 0, slots := 0, locals := 0 } : Room) s m #[] below meth c Z (fun v h => v = some (.ref em) ∧ h0 = h) h0 0 0 (mkF m 0 #[.unset] [])
  refine Go.getS C (host := "") (Or.inl (hw _ (List.mem_of_getElem? (i := 57) rfl))) Via.refl SE d_opem_0 (pc' := 3) rfl ?_
  refine Go.plain (g' := (mkF m 4 #[.val (.ref em)] [])) (fun T_ L_ X_ t_ q_ => XS.astoreN X_.here C.hx rfl (C.d d_opem_3) rfl rfl (l' := #[.val (.ref em)]) rfl q_) ?_
  refine Go.plain (g' := (mkF m 5 #[.val (.ref em)] [(.ref em)])) (fun T_ L_ X_ t_ q_ => XS.aloadN X_.here C.hx rfl (C.d d_opem_4) rfl rfl q_) ?_
  exact Go.retA C rfl rfl rfl d_opem_5 (by decide) (by decide) ⟨rfl, rfl⟩
theorem d_eq_0 : decode jdk_42_method_66_code 0 = .ok (.aload_n 0, 1) := by decide +kernel
theorem d_eq_1 : decode jdk_42_method_66_code 1 = .ok (.aload_n 1, 1) := by decide +kernel
theorem d_eq_2 : decode jdk_42_method_66_code 2 = .ok (.if_acmp .ne 5, 3) := by decide +kernel
theorem d_eq_5 : decode jdk_42_method_66_code 5 = .ok (.iconst 1, 1) := by decide +kernel
theorem d_eq_6 : decode jdk_42_method_66_code 6 = .ok (.ireturn, 1) := by decide +kernel
theorem pn_eq : plainName "java/lang/String" = true := by first | (simp [plainName, overriddenIn]; done) | decide +kernel
theorem ef_eq (m : MethodId) (x0 : Addr) (x1 : Addr)  : entryFrame m #[(.ref x0), (.ref x1)] 3 = mkF m 0 #[.val (.ref x0), .val (.ref x1), .unset] [] := by first | (simp [entryFrame, mkF, argsToLocals, Value.category]; done) | rfl
set_option maxRecDepth 65536 in
set_option maxHeartbeats 40000000 in
theorem P_eq (l : Launch) (Z : State) (a0 : Array Value) (hw : ∀ d ∈ tables_1, d.before a0 Z = true) (a : Addr) (h0 : Heap)  :
    Pays l Z (⟨"java/lang/String", "equals", "(Ljava/lang/Object;)Z"⟩ : MethodName) jdk_42_method_66_code 3 (some .boolean) ({ frames := 0, cells := 0, slots := 0, locals := 0 } : Room) #[(.ref a), (.ref a)] h0 (fun v h => v = some (.int (1 : Int32)) ∧ h0 = h) := by
  refine pays_of_go (plainFor_of_name pn_eq) (fun m => ef_eq m a a) ?_
  intro p e s m below meth c C0
  have C : Cx p s m meth c jdk_42_method_66_code 3 (some .boolean) "equals" "java/lang/String" Z := C0
  show Go p l e ({ frames := 0, cells := 0, slots := 0, locals := 0 } : Room) s m #[(.ref a), (.ref a)] below meth c Z (fun v h => v = some (.int (1 : Int32)) ∧ h0 = h) h0 0 0 (mkF m 0 #[.val (.ref a), .val (.ref a), .unset] [])
  refine Go.plain (g' := (mkF m 1 #[.val (.ref a), .val (.ref a), .unset] [(.ref a)])) (fun T_ L_ X_ t_ q_ => XS.aloadN X_.here C.hx rfl (C.d d_eq_0) rfl rfl q_) ?_
  refine Go.plain (g' := (mkF m 2 #[.val (.ref a), .val (.ref a), .unset] [(.ref a), (.ref a)])) (fun T_ L_ X_ t_ q_ => XS.aloadN X_.here C.hx rfl (C.d d_eq_1) rfl rfl q_) ?_
  refine Go.plain (g' := (mkF m 5 #[.val (.ref a), .val (.ref a), .unset] [])) (fun T_ L_ X_ t_ q_ => Jvm.RoadKit.acmp (g := (mkF m 2 #[.val (.ref a), .val (.ref a), .unset] [(.ref a), (.ref a)])) X_ C.hx rfl rfl rfl (pc0 := 2) (pc' := 5) (same := true) rfl (C.d d_eq_2) rfl (decide_eq_true rfl) (by decide) (by decide) q_) ?_
  refine Go.plain (g' := (mkF m 6 #[.val (.ref a), .val (.ref a), .unset] [(.int (1 : Int32))])) (fun T_ L_ X_ t_ q_ => XS.iconst X_.here C.hx rfl (C.d d_eq_5) q_) ?_
  exact Go.retN C (by simp) d_eq_6 (by decide) (by decide) ⟨rfl, rfl⟩
theorem d_enc_0 : decode jdk_43_method_3_code 0 = .ok (.iload_n 0, 1) := by decide +kernel
theorem d_enc_1 : decode jdk_43_method_3_code 1 = .ok (.sipush 255, 3) := by decide +kernel
theorem d_enc_4 : decode jdk_43_method_3_code 4 = .ok (.if_icmp .gt 7, 3) := by decide +kernel
theorem d_enc_7 : decode jdk_43_method_3_code 7 = .ok (.iconst 1, 1) := by decide +kernel
theorem d_enc_8 : decode jdk_43_method_3_code 8 = .ok (.goto 4, 3) := by decide +kernel
theorem d_enc_12 : decode jdk_43_method_3_code 12 = .ok (.ireturn, 1) := by decide +kernel
theorem pn_enc : plainName "java/lang/StringLatin1" = true := by first | (simp [plainName, overriddenIn]; done) | decide +kernel
theorem ef_enc (m : MethodId) (x0 : Int32)  : entryFrame m #[(.int x0)] 1 = mkF m 0 #[.val (.int x0)] [] := by first | (simp [entryFrame, mkF, argsToLocals, Value.category]; done) | rfl
set_option maxRecDepth 65536 in
set_option maxHeartbeats 40000000 in
theorem P_enc (l : Launch) (Z : State) (a0 : Array Value) (hw : ∀ d ∈ tables_1, d.before a0 Z = true) (c1 : Int32) (h0 : Heap) (hc : ¬ c1 < 0 ∧ ¬ (255 : Int32) < c1) :
    Pays l Z (⟨"java/lang/StringLatin1", "canEncode", "(C)Z"⟩ : MethodName) jdk_43_method_3_code 1 (some .boolean) ({ frames := 0, cells := 0, slots := 0, locals := 0 } : Room) #[(.int c1)] h0 (fun v h => v = some (.int (1 : Int32)) ∧ h0 = h) := by
  refine pays_of_go (plainFor_of_name pn_enc) (fun m => ef_enc m c1) ?_
  intro p e s m below meth c C0
  have C : Cx p s m meth c jdk_43_method_3_code 1 (some .boolean) "canEncode" "java/lang/StringLatin1" Z := C0
  show Go p l e ({ frames := 0, cells := 0, slots := 0, locals := 0 } : Room) s m #[(.int c1)] below meth c Z (fun v h => v = some (.int (1 : Int32)) ∧ h0 = h) h0 0 0 (mkF m 0 #[.val (.int c1)] [])
  refine Go.plain (g' := (mkF m 1 #[.val (.int c1)] [(.int c1)])) (fun T_ L_ X_ t_ q_ => XS.iloadN X_.here C.hx rfl (C.d d_enc_0) rfl q_) ?_
  refine Go.plain (g' := (mkF m 4 #[.val (.int c1)] [(.int (255 : Int32)), (.int c1)])) (fun T_ L_ X_ t_ q_ => XS.sipush X_.here C.hx rfl (C.d d_enc_1) q_) ?_
  refine Go.plain (g' := (mkF m 7 #[.val (.int c1)] [])) (fun T_ L_ X_ t_ q_ => XS.icmpNo X_.here C.hx rfl (C.d d_enc_4) rfl (flt hc.2).2.2.1 q_) ?_
  refine Go.plain (g' := (mkF m 8 #[.val (.int c1)] [(.int (1 : Int32))])) (fun T_ L_ X_ t_ q_ => XS.iconst X_.here C.hx rfl (C.d d_enc_7) q_) ?_
  refine Go.plain (g' := (mkF m 12 #[.val (.int c1)] [(.int (1 : Int32))])) (fun T_ L_ X_ t_ q_ => XS.goto X_.here C.hx rfl (pc0 := 8) (pc' := 12) rfl (C.d d_enc_8) (by decide) (by decide) q_) ?_
  exact Go.retN C (by simp) d_enc_12 (by decide) (by decide) ⟨rfl, rfl⟩
theorem d_tob_0 : decode jdk_43_method_46_code 0 = .ok (.iconst 1, 1) := by decide +kernel
theorem d_tob_1 : decode jdk_43_method_46_code 1 = .ok (.newarray .byte, 2) := by decide +kernel
theorem d_tob_3 : decode jdk_43_method_46_code 3 = .ok (.dup, 1) := by decide +kernel
theorem d_tob_4 : decode jdk_43_method_46_code 4 = .ok (.iconst 0, 1) := by decide +kernel
theorem d_tob_5 : decode jdk_43_method_46_code 5 = .ok (.iload_n 0, 1) := by decide +kernel
theorem d_tob_6 : decode jdk_43_method_46_code 6 = .ok (.i2b, 1) := by decide +kernel
theorem d_tob_7 : decode jdk_43_method_46_code 7 = .ok (.bastore, 1) := by decide +kernel
theorem d_tob_8 : decode jdk_43_method_46_code 8 = .ok (.areturn, 1) := by decide +kernel
theorem pn_tob : plainName "java/lang/StringLatin1" = true := by first | (simp [plainName, overriddenIn]; done) | decide +kernel
theorem ef_tob (m : MethodId) (x0 : Int32)  : entryFrame m #[(.int x0)] 1 = mkF m 0 #[.val (.int x0)] [] := by first | (simp [entryFrame, mkF, argsToLocals, Value.category]; done) | rfl
set_option maxRecDepth 65536 in
set_option maxHeartbeats 40000000 in
theorem P_tob (l : Launch) (Z : State) (a0 : Array Value) (hw : ∀ d ∈ tables_1, d.before a0 Z = true) (c1 : Int32) (h0 : Heap)  :
    Pays l Z (⟨"java/lang/StringLatin1", "toBytes", "(C)[B"⟩ : MethodName) jdk_43_method_46_code 1 (some (.array .byte)) ({ frames := 0, cells := 1, slots := 1, locals := 0 } : Room) #[(.int c1)] h0 (fun v h => ∃ a, v = some (.ref a) ∧ Z.heap.size ≤ a ∧ Ext h0 h ∧ ∃ kA, Arv Z h a kA .byte (1 : Int32) [.int (nar .byte (c1.toInt8.toInt32))] (.int 0)) := by
  refine pays_of_go (plainFor_of_name pn_tob) (fun m => ef_tob m c1) ?_
  intro p e s m below meth c C0
  have C : Cx p s m meth c jdk_43_method_46_code 1 (some (.array .byte)) "toBytes" "java/lang/StringLatin1" Z := C0
  show Go p l e ({ frames := 0, cells := 1, slots := 1, locals := 0 } : Room) s m #[(.int c1)] below meth c Z (fun v h => ∃ a, v = some (.ref a) ∧ Z.heap.size ≤ a ∧ Ext h0 h ∧ ∃ kA, Arv Z h a kA .byte (1 : Int32) [.int (nar .byte (c1.toInt8.toInt32))] (.int 0)) h0 0 0 (mkF m 0 #[.val (.int c1)] [])
  refine Go.plain (g' := (mkF m 1 #[.val (.int c1)] [(.int (1 : Int32))])) (fun T_ L_ X_ t_ q_ => XS.iconst X_.here C.hx rfl (C.d d_tob_0) q_) ?_
  refine Go.newP C (hw _ (List.mem_of_getElem? (i := 27) rfl)) (by decide) (cap := 1) (by decide) (by decide) d_tob_1 (pc' := 3) rfl (k' := 1) (n' := 1) rfl rfl (by decide) (by decide) ?_
  intro a h2 kA q_a z_a E_a V_a
  have V_a : Arv Z h2 a kA .byte (1 : Int32) [.int 0] (.int 0) := V_a.pad (pad_rep [] (.int 0) 1)
  refine Go.plain (g' := (mkF m 4 #[.val (.int c1)] [(.ref a), (.ref a)])) (fun T_ L_ X_ t_ q_ => XS.dup X_.here C.hx rfl (C.d d_tob_3) rfl rfl q_) ?_
  refine Go.plain (g' := (mkF m 5 #[.val (.int c1)] [(.int (0 : Int32)), (.ref a), (.ref a)])) (fun T_ L_ X_ t_ q_ => XS.iconst X_.here C.hx rfl (C.d d_tob_4) q_) ?_
  refine Go.plain (g' := (mkF m 6 #[.val (.int c1)] [(.int c1), (.int (0 : Int32)), (.ref a), (.ref a)])) (fun T_ L_ X_ t_ q_ => XS.iloadN X_.here C.hx rfl (C.d d_tob_5) rfl q_) ?_
  refine Go.plain (g' := (mkF m 7 #[.val (.int c1)] [(.int (c1.toInt8.toInt32)), (.int (0 : Int32)), (.ref a), (.ref a)])) (fun T_ L_ X_ t_ q_ => XS.i2b X_.here C.hx rfl (C.d d_tob_6) rfl q_) ?_
  refine Go.stB C V_a ⟨by decide, by decide⟩ (i := 0) rfl (Nat.le_of_ble_eq_true rfl) z_a d_tob_7 (pc' := 8) rfl ?_
  intro h3 W3 V_a
  exact Go.retA C rfl rfl rfl d_tob_8 (by decide) (by decide) ⟨a, rfl, z_a, ext_wr E_a W3 (Nat.le_of_eq q_a.symm), kA, V_a⟩
theorem d_sib_0 : decode jdk_42_method_151_code 0 = .ok (.aload_n 0, 1) := by decide +kernel
theorem d_sib_1 : decode jdk_42_method_151_code 1 = .ok (.invokespecial 1, 3) := by decide +kernel
theorem d_sib_4 : decode jdk_42_method_151_code 4 = .ok (.aload_n 0, 1) := by decide +kernel
theorem d_sib_5 : decode jdk_42_method_151_code 5 = .ok (.aload_n 1, 1) := by decide +kernel
theorem d_sib_6 : decode jdk_42_method_151_code 6 = .ok (.putfield 9, 3) := by decide +kernel
theorem d_sib_9 : decode jdk_42_method_151_code 9 = .ok (.aload_n 0, 1) := by decide +kernel
theorem d_sib_10 : decode jdk_42_method_151_code 10 = .ok (.iload_n 2, 1) := by decide +kernel
theorem d_sib_11 : decode jdk_42_method_151_code 11 = .ok (.putfield 15, 3) := by decide +kernel
theorem d_sib_14 : decode jdk_42_method_151_code 14 = .ok (.return_, 1) := by decide +kernel
theorem pn_sib : plainName "java/lang/String" = true := by first | (simp [plainName, overriddenIn]; done) | decide +kernel
theorem ef_sib (m : MethodId) (x0 : Addr) (x1 : Addr) (x2 : Int32)  : entryFrame m #[(.ref x0), (.ref x1), (.int x2)] 3 = mkF m 0 #[.val (.ref x0), .val (.ref x1), .val (.int x2)] [] := by first | (simp [entryFrame, mkF, argsToLocals, Value.category]; done) | rfl
set_option maxRecDepth 65536 in
set_option maxHeartbeats 40000000 in
theorem P_sib (l : Launch) (Z : State) (a0 : Array Value) (hw : ∀ d ∈ tables_1, d.before a0 Z = true) (a b : Addr) (h0 : Heap) (E : Exa Z h0 a "java/lang/String") (F1 : Fld Z h0 a "java/lang/String" "value" "[B" .null) (F2 : Fld Z h0 a "java/lang/String" "coder" "B" (.int 0)) (ge : Z.heap.size ≤ a) :
    Pays l Z (⟨"java/lang/String", "<init>", "([BB)V"⟩ : MethodName) jdk_42_method_151_code 3 none ({ frames := 1, cells := 0, slots := 0, locals := 12 } : Room) #[(.ref a), (.ref b), (.int (0 : Int32))] h0 (fun v h => v = none ∧ Keep h0 h [a] ∧ Exa Z h a "java/lang/String" ∧ Fld Z h a "java/lang/String" "value" "[B" (.ref b) ∧ Fld Z h a "java/lang/String" "coder" "B" (.int 0)) := by
  refine pays_of_go (plainFor_of_name pn_sib) (fun m => ef_sib m a b (0 : Int32)) ?_
  intro p e s m below meth c C0
  have C : Cx p s m meth c jdk_42_method_151_code 3 none "<init>" "java/lang/String" Z := C0
  show Go p l e ({ frames := 1, cells := 0, slots := 0, locals := 12 } : Room) s m #[(.ref a), (.ref b), (.int (0 : Int32))] below meth c Z (fun v h => v = none ∧ Keep h0 h [a] ∧ Exa Z h a "java/lang/String" ∧ Fld Z h a "java/lang/String" "value" "[B" (.ref b) ∧ Fld Z h a "java/lang/String" "coder" "B" (.int 0)) h0 0 0 (mkF m 0 #[.val (.ref a), .val (.ref b), .val (.int (0 : Int32))] [])
  have K0 : Keep h0 h0 [a] := Keep.refl _ _
  refine Go.plain (g' := (mkF m 1 #[.val (.ref a), .val (.ref b), .val (.int (0 : Int32))] [(.ref a)])) (fun T_ L_ X_ t_ q_ => XS.aloadN X_.here C.hx rfl (C.d d_sib_0) rfl rfl q_) ?_
  refine Go.initO C (hw _ (List.mem_of_getElem? (i := 19) rfl)) (hw _ (List.mem_of_getElem? (i := 20) rfl)) (hw _ (List.mem_of_getElem? (i := 21) rfl)) d_sib_1 (pc' := 4) rfl rfl (by decide) (W := 0) (Nat.le_of_eq rfl) (by decide) ?_
  refine Go.plain (g' := (mkF m 5 #[.val (.ref a), .val (.ref b), .val (.int (0 : Int32))] [(.ref a)])) (fun T_ L_ X_ t_ q_ => XS.aloadN X_.here C.hx rfl (C.d d_sib_4) rfl rfl q_) ?_
  refine Go.plain (g' := (mkF m 6 #[.val (.ref a), .val (.ref b), .val (.int (0 : Int32))] [(.ref b), (.ref a)])) (fun T_ L_ X_ t_ q_ => XS.aloadN X_.here C.hx rfl (C.d d_sib_5) rfl rfl q_) ?_
  refine Go.putF C (host := "") (Or.inl (hw _ (List.mem_of_getElem? (i := 36) rfl))) Via.refl F1 E (Or.inr ⟨(hw _ (List.mem_of_getElem? (i := 37) rfl)), rfl, rfl⟩) (hw _ (List.mem_of_getElem? (i := 10) rfl)) (ty := (.array .byte)) (by decide) rfl rfl ge d_sib_6 (pc' := 9) rfl ?_
  intro h1 Wh1
  have F1 := F1.same Wh1
  have F2 := F2.other Wh1 (Or.inr (slot_ne (Or.inr (hw _ (List.mem_of_getElem? (i := 35) rfl))) (Or.inr (hw _ (List.mem_of_getElem? (i := 37) rfl))) (by decide) (t := .byte) (t' := (.array .byte)) (by decide) (by decide)))
  have E := E.wr Wh1
  have K0 := K0.wr Wh1 (Or.inl (List.mem_cons_self ..))
  refine Go.plain (g' := (mkF m 10 #[.val (.ref a), .val (.ref b), .val (.int (0 : Int32))] [(.ref a)])) (fun T_ L_ X_ t_ q_ => XS.aloadN X_.here C.hx rfl (C.d d_sib_9) rfl rfl q_) ?_
  refine Go.plain (g' := (mkF m 11 #[.val (.ref a), .val (.ref b), .val (.int (0 : Int32))] [(.int (0 : Int32)), (.ref a)])) (fun T_ L_ X_ t_ q_ => XS.iloadN X_.here C.hx rfl (C.d d_sib_10) rfl q_) ?_
  refine Go.putFN C (hw _ (List.mem_of_getElem? (i := 34) rfl)) Via.refl F2 E (Or.inr ⟨(hw _ (List.mem_of_getElem? (i := 35) rfl)), rfl, rfl⟩) (hw _ (List.mem_of_getElem? (i := 10) rfl)) (ty := .byte) (v' := .int (nar .byte (0 : Int32))) (by decide) rfl (fits_nar_byte _) ge d_sib_11 (pc' := 14) rfl ?_
  intro h2 Wh2
  have F1 := F1.other Wh2 (Or.inr (slot_ne (Or.inr (hw _ (List.mem_of_getElem? (i := 37) rfl))) (Or.inr (hw _ (List.mem_of_getElem? (i := 35) rfl))) (by decide) (t := (.array .byte)) (t' := .byte) (by decide) (by decide)))
  have F2 := F2.same Wh2
  have E := E.wr Wh2
  have K0 := K0.wr Wh2 (Or.inl (List.mem_cons_self ..))
  exact Go.retV C d_sib_14 (by decide) (by decide) ⟨rfl, K0, E, F1, F2⟩
theorem d_vof_0 : decode jdk_42_method_139_code 0 = .ok (.getstatic 38, 3) := by decide +kernel
theorem d_vof_3 : decode jdk_42_method_139_code 3 = .ok (.ifCond .eq 23, 3) := by decide +kernel
theorem d_vof_6 : decode jdk_42_method_139_code 6 = .ok (.iload_n 0, 1) := by decide +kernel
theorem d_vof_7 : decode jdk_42_method_139_code 7 = .ok (.invokestatic 1015, 3) := by decide +kernel
theorem d_vof_10 : decode jdk_42_method_139_code 10 = .ok (.ifCond .eq 16, 3) := by decide +kernel
theorem d_vof_13 : decode jdk_42_method_139_code 13 = .ok (.new 10, 3) := by decide +kernel
theorem d_vof_16 : decode jdk_42_method_139_code 16 = .ok (.dup, 1) := by decide +kernel
theorem d_vof_17 : decode jdk_42_method_139_code 17 = .ok (.iload_n 0, 1) := by decide +kernel
theorem d_vof_18 : decode jdk_42_method_139_code 18 = .ok (.invokestatic 1018, 3) := by decide +kernel
theorem d_vof_21 : decode jdk_42_method_139_code 21 = .ok (.iconst 0, 1) := by decide +kernel
theorem d_vof_22 : decode jdk_42_method_139_code 22 = .ok (.invokespecial 209, 3) := by decide +kernel
theorem d_vof_25 : decode jdk_42_method_139_code 25 = .ok (.areturn, 1) := by decide +kernel
theorem pn_vof : plainName "java/lang/String" = true := by first | (simp [plainName, overriddenIn]; done) | decide +kernel
theorem ef_vof (m : MethodId) (x0 : Int32)  : entryFrame m #[(.int x0)] 1 = mkF m 0 #[.val (.int x0)] [] := by first | (simp [entryFrame, mkF, argsToLocals, Value.category]; done) | rfl
set_option maxRecDepth 65536 in
set_option maxHeartbeats 40000000 in
theorem P_vof (l : Launch) (Z : State) (a0 : Array Value) (hw : ∀ d ∈ tables_1, d.before a0 Z = true) (c1 zc : Int32) (h0 : Heap) (hc : ¬ c1 < 0 ∧ ¬ (255 : Int32) < c1) (S0 : Sta Z Z.heap "java/lang/String" "COMPACT_STRINGS" "Z" (.int zc)) (hz : ¬ zc = 0) :
    Pays l Z (⟨"java/lang/String", "valueOf", "(C)Ljava/lang/String;"⟩ : MethodName) jdk_42_method_139_code 1 (some (.object "java/lang/String")) ({ frames := 2, cells := 2, slots := 5, locals := 27 } : Room) #[(.int c1)] h0 (fun v h => ∃ a, v = some (.ref a) ∧ Z.heap.size ≤ a ∧ Ext h0 h ∧ Exa Z h a "java/lang/String") := by
  refine pays_of_go (plainFor_of_name pn_vof) (fun m => ef_vof m c1) ?_
  intro p e s m below meth c C0
  have C : Cx p s m meth c jdk_42_method_139_code 1 (some (.object "java/lang/String")) "valueOf" "java/lang/String" Z := C0
  show Go p l e ({ frames := 2, cells := 2, slots := 5, locals := 27 } : Room) s m #[(.int c1)] below meth c Z (fun v h => ∃ a, v = some (.ref a) ∧ Z.heap.size ≤ a ∧ Ext h0 h ∧ Exa Z h a "java/lang/String") h0 0 0 (mkF m 0 #[.val (.int c1)] [])
  refine Go.getS C (host := "") (Or.inl (hw _ (List.mem_of_getElem? (i := 22) rfl))) Via.refl S0 d_vof_0 (pc' := 3) rfl ?_
  refine Go.plain (g' := (mkF m 6 #[.val (.int c1)] [])) (fun T_ L_ X_ t_ q_ => XS.ifNo X_.here C.hx rfl (C.d d_vof_3) rfl ((if0 _ _).trans (feq hz).1) q_) ?_
  refine Go.plain (g' := (mkF m 7 #[.val (.int c1)] [(.int c1)])) (fun T_ L_ X_ t_ q_ => XS.iloadN X_.here C.hx rfl (C.d d_vof_6) rfl q_) ?_
  refine Go.static C (P_enc l Z a0 hw c1 h0 hc) (hw _ (List.mem_of_getElem? (i := 153) rfl)) (hw _ (List.mem_of_getElem? (i := 154) rfl)) (hw _ (List.mem_of_getElem? (i := 155) rfl)) (hw _ (List.mem_of_getElem? (i := 156) rfl)) (by decide) pd_2 (argsL := [(.int c1)]) (rest := []) rfl rfl d_vof_7 (pc' := 10) rfl rfl rfl (W := 0) (Nat.le_of_eq rfl) (by decide) (by decide) (k' := 0) (n' := 0) rfl rfl (by decide) (by decide) ?_
  rintro _ _ ⟨rfl, rfl⟩
  show Go p l e ({ frames := 2, cells := 2, slots := 5, locals := 27 } : Room) s m #[(.int c1)] below meth c Z (fun v h => ∃ a, v = some (.ref a) ∧ Z.heap.size ≤ a ∧ Ext h0 h ∧ Exa Z h a "java/lang/String") h0 0 0 (mkF m 10 #[.val (.int c1)] [(.int (1 : Int32))])
  refine Go.plain (g' := (mkF m 13 #[.val (.int c1)] [])) (fun T_ L_ X_ t_ q_ => XS.ifNo X_.here C.hx rfl (C.d d_vof_10) rfl ((if0 _ _).trans (feq (by decide : ¬ ((1 : Int32) = (0 : Int32)))).1) q_) ?_
  refine Go.new C (hw _ (List.mem_of_getElem? (i := 157) rfl)) (hw _ (List.mem_of_getElem? (i := 10) rfl)) (hw _ (List.mem_of_getElem? (i := 11) rfl)) d_vof_13 (pc' := 16) rfl (k' := 1) (n' := 4) rfl rfl (by decide) (by decide) ?_
  intro a h1 q_a z_a E_a A_a D_a
  have F1 : Fld Z h1 a "java/lang/String" "value" "[B" .null := D_a (Or.inr (hw _ (List.mem_of_getElem? (i := 37) rfl))) (ty := (.array .byte)) (by decide)
  have F2 : Fld Z h1 a "java/lang/String" "coder" "B" (.int (0 : Int32)) := D_a (Or.inr (hw _ (List.mem_of_getElem? (i := 35) rfl))) (ty := .byte) (by decide)
  refine Go.plain (g' := (mkF m 17 #[.val (.int c1)] [(.ref a), (.ref a)])) (fun T_ L_ X_ t_ q_ => XS.dup X_.here C.hx rfl (C.d d_vof_16) rfl rfl q_) ?_
  refine Go.plain (g' := (mkF m 18 #[.val (.int c1)] [(.int c1), (.ref a), (.ref a)])) (fun T_ L_ X_ t_ q_ => XS.iloadN X_.here C.hx rfl (C.d d_vof_17) rfl q_) ?_
  refine Go.static C (P_tob l Z a0 hw c1 h1) (hw _ (List.mem_of_getElem? (i := 158) rfl)) (hw _ (List.mem_of_getElem? (i := 159) rfl)) (hw _ (List.mem_of_getElem? (i := 155) rfl)) (hw _ (List.mem_of_getElem? (i := 160) rfl)) (by decide) pd_3 (argsL := [(.int c1)]) (rest := [(.ref a), (.ref a)]) rfl rfl d_vof_18 (pc' := 21) rfl rfl rfl (W := 2) (Nat.le_of_eq rfl) (by decide) (by decide) (k' := 2) (n' := 5) rfl rfl (by decide) (by decide) ?_
  rintro _ h5 ⟨b, rfl, z_b, X5, kA, V5⟩
  show Go p l e ({ frames := 2, cells := 2, slots := 5, locals := 27 } : Room) s m #[(.int c1)] below meth c Z (fun v h => ∃ a, v = some (.ref a) ∧ Z.heap.size ≤ a ∧ Ext h0 h ∧ Exa Z h a "java/lang/String") h5 2 5 (mkF m 21 #[.val (.int c1)] [(.ref b), (.ref a), (.ref a)])
  refine Go.plain (g' := (mkF m 22 #[.val (.int c1)] [(.int (0 : Int32)), (.ref b), (.ref a), (.ref a)])) (fun T_ L_ X_ t_ q_ => XS.iconst X_.here C.hx rfl (C.d d_vof_21) q_) ?_
  refine Go.special C (a := a) (P_sib l Z a0 hw a b h5 (A_a.ext X5) (F1.ext X5) (F2.ext X5) z_a) rfl (hw _ (List.mem_of_getElem? (i := 161) rfl)) (hw _ (List.mem_of_getElem? (i := 162) rfl)) (hw _ (List.mem_of_getElem? (i := 11) rfl)) (hw _ (List.mem_of_getElem? (i := 163) rfl)) (by decide) pd_4 (argsL := [(.ref b), (.int (0 : Int32))]) (rest := [(.ref a)]) rfl rfl d_vof_22 (pc' := 25) rfl rfl rfl (W := 1) (Nat.le_of_eq rfl) (by decide) (by decide) (k' := 2) (n' := 5) rfl rfl (by decide) (by decide) ?_
  rintro _ h6 ⟨rfl, K6, E6, -, -⟩
  show Go p l e ({ frames := 2, cells := 2, slots := 5, locals := 27 } : Room) s m #[(.int c1)] below meth c Z (fun v h => ∃ a, v = some (.ref a) ∧ Z.heap.size ≤ a ∧ Ext h0 h ∧ Exa Z h a "java/lang/String") h6 2 5 (mkF m 25 #[.val (.int c1)] [(.ref a)])
  exact Go.retA C rfl rfl rfl d_vof_25 (by decide) (by decide) ⟨a, rfl, z_a, ext_keep1 (ext_trans E_a X5) K6 (Nat.le_of_eq q_a.symm), E6⟩
theorem d_g_code_0 : decode prog_41_method_6_code 0 = .ok (.aload_n 0, 1) := by decide +kernel
theorem d_g_code_1 : decode prog_41_method_6_code 1 = .ok (.getfield 7, 3) := by decide +kernel
theorem d_g_code_4 : decode prog_41_method_6_code 4 = .ok (.areturn, 1) := by decide +kernel
theorem pn_g_code : plainName "com/example/tejuelo/tejuelo/core/Finding" = true := by first | (simp [plainName, overriddenIn]; done) | decide +kernel
theorem ef_g_code (m : MethodId) (x0 : Addr)  : entryFrame m #[(.ref x0)] 1 = mkF m 0 #[.val (.ref x0)] [] := by first | (simp [entryFrame, mkF, argsToLocals, Value.category]; done) | rfl
set_option maxRecDepth 65536 in
set_option maxHeartbeats 40000000 in
theorem P_g_code (l : Launch) (Z : State) (a0 : Array Value) (hw : ∀ d ∈ tables_1, d.before a0 Z = true) (a b : Addr) (h0 : Heap) (F : Fld Z h0 a "com/example/tejuelo/tejuelo/core/Finding" "code" "Ljava/lang/String;" (.ref b)) :
    Pays l Z (⟨"com/example/tejuelo/tejuelo/core/Finding", "code", "()Ljava/lang/String;"⟩ : MethodName) prog_41_method_6_code 1 (some (.object "java/lang/String")) ({ frames := 0, cells := 0, slots := 0, locals := 0 } : Room) #[(.ref a)] h0 (fun v h => v = some (.ref b) ∧ h0 = h) := by
  refine pays_of_go (plainFor_of_name pn_g_code) (fun m => ef_g_code m a) ?_
  intro p e s m below meth c C0
  have C : Cx p s m meth c prog_41_method_6_code 1 (some (.object "java/lang/String")) "code" "com/example/tejuelo/tejuelo/core/Finding" Z := C0
  show Go p l e ({ frames := 0, cells := 0, slots := 0, locals := 0 } : Room) s m #[(.ref a)] below meth c Z (fun v h => v = some (.ref b) ∧ h0 = h) h0 0 0 (mkF m 0 #[.val (.ref a)] [])
  refine Go.plain (g' := (mkF m 1 #[.val (.ref a)] [(.ref a)])) (fun T_ L_ X_ t_ q_ => XS.aloadN X_.here C.hx rfl (C.d d_g_code_0) rfl rfl q_) ?_
  refine Go.getF C (host := "") (Or.inl (hw _ (List.mem_of_getElem? (i := 70) rfl))) Via.refl F d_g_code_1 (pc' := 4) rfl ?_
  exact Go.retA C rfl rfl rfl d_g_code_4 (by decide) (by decide) ⟨rfl, rfl⟩
theorem d_g_field_0 : decode prog_41_method_7_code 0 = .ok (.aload_n 0, 1) := by decide +kernel
theorem d_g_field_1 : decode prog_41_method_7_code 1 = .ok (.getfield 13, 3) := by decide +kernel
theorem d_g_field_4 : decode prog_41_method_7_code 4 = .ok (.areturn, 1) := by decide +kernel
theorem pn_g_field : plainName "com/example/tejuelo/tejuelo/core/Finding" = true := by first | (simp [plainName, overriddenIn]; done) | decide +kernel
theorem ef_g_field (m : MethodId) (x0 : Addr)  : entryFrame m #[(.ref x0)] 1 = mkF m 0 #[.val (.ref x0)] [] := by first | (simp [entryFrame, mkF, argsToLocals, Value.category]; done) | rfl
set_option maxRecDepth 65536 in
set_option maxHeartbeats 40000000 in
theorem P_g_field (l : Launch) (Z : State) (a0 : Array Value) (hw : ∀ d ∈ tables_1, d.before a0 Z = true) (a b : Addr) (h0 : Heap) (F : Fld Z h0 a "com/example/tejuelo/tejuelo/core/Finding" "field" "Ljava/lang/String;" (.ref b)) :
    Pays l Z (⟨"com/example/tejuelo/tejuelo/core/Finding", "field", "()Ljava/lang/String;"⟩ : MethodName) prog_41_method_7_code 1 (some (.object "java/lang/String")) ({ frames := 0, cells := 0, slots := 0, locals := 0 } : Room) #[(.ref a)] h0 (fun v h => v = some (.ref b) ∧ h0 = h) := by
  refine pays_of_go (plainFor_of_name pn_g_field) (fun m => ef_g_field m a) ?_
  intro p e s m below meth c C0
  have C : Cx p s m meth c prog_41_method_7_code 1 (some (.object "java/lang/String")) "field" "com/example/tejuelo/tejuelo/core/Finding" Z := C0
  show Go p l e ({ frames := 0, cells := 0, slots := 0, locals := 0 } : Room) s m #[(.ref a)] below meth c Z (fun v h => v = some (.ref b) ∧ h0 = h) h0 0 0 (mkF m 0 #[.val (.ref a)] [])
  refine Go.plain (g' := (mkF m 1 #[.val (.ref a)] [(.ref a)])) (fun T_ L_ X_ t_ q_ => XS.aloadN X_.here C.hx rfl (C.d d_g_field_0) rfl rfl q_) ?_
  refine Go.getF C (host := "") (Or.inl (hw _ (List.mem_of_getElem? (i := 72) rfl))) Via.refl F d_g_field_1 (pc' := 4) rfl ?_
  exact Go.retA C rfl rfl rfl d_g_field_4 (by decide) (by decide) ⟨rfl, rfl⟩
theorem d_g_message_0 : decode prog_41_method_8_code 0 = .ok (.aload_n 0, 1) := by decide +kernel
theorem d_g_message_1 : decode prog_41_method_8_code 1 = .ok (.getfield 16, 3) := by decide +kernel
theorem d_g_message_4 : decode prog_41_method_8_code 4 = .ok (.areturn, 1) := by decide +kernel
theorem pn_g_message : plainName "com/example/tejuelo/tejuelo/core/Finding" = true := by first | (simp [plainName, overriddenIn]; done) | decide +kernel
theorem ef_g_message (m : MethodId) (x0 : Addr)  : entryFrame m #[(.ref x0)] 1 = mkF m 0 #[.val (.ref x0)] [] := by first | (simp [entryFrame, mkF, argsToLocals, Value.category]; done) | rfl
set_option maxRecDepth 65536 in
set_option maxHeartbeats 40000000 in
theorem P_g_message (l : Launch) (Z : State) (a0 : Array Value) (hw : ∀ d ∈ tables_1, d.before a0 Z = true) (a b : Addr) (h0 : Heap) (F : Fld Z h0 a "com/example/tejuelo/tejuelo/core/Finding" "message" "Ljava/lang/String;" (.ref b)) :
    Pays l Z (⟨"com/example/tejuelo/tejuelo/core/Finding", "message", "()Ljava/lang/String;"⟩ : MethodName) prog_41_method_8_code 1 (some (.object "java/lang/String")) ({ frames := 0, cells := 0, slots := 0, locals := 0 } : Room) #[(.ref a)] h0 (fun v h => v = some (.ref b) ∧ h0 = h) := by
  refine pays_of_go (plainFor_of_name pn_g_message) (fun m => ef_g_message m a) ?_
  intro p e s m below meth c C0
  have C : Cx p s m meth c prog_41_method_8_code 1 (some (.object "java/lang/String")) "message" "com/example/tejuelo/tejuelo/core/Finding" Z := C0
  show Go p l e ({ frames := 0, cells := 0, slots := 0, locals := 0 } : Room) s m #[(.ref a)] below meth c Z (fun v h => v = some (.ref b) ∧ h0 = h) h0 0 0 (mkF m 0 #[.val (.ref a)] [])
  refine Go.plain (g' := (mkF m 1 #[.val (.ref a)] [(.ref a)])) (fun T_ L_ X_ t_ q_ => XS.aloadN X_.here C.hx rfl (C.d d_g_message_0) rfl rfl q_) ?_
  refine Go.getF C (host := "") (Or.inl (hw _ (List.mem_of_getElem? (i := 74) rfl))) Via.refl F d_g_message_1 (pc' := 4) rfl ?_
  exact Go.retA C rfl rfl rfl d_g_message_4 (by decide) (by decide) ⟨rfl, rfl⟩
theorem d_g_clause_0 : decode prog_41_method_9_code 0 = .ok (.aload_n 0, 1) := by decide +kernel
theorem d_g_clause_1 : decode prog_41_method_9_code 1 = .ok (.getfield 19, 3) := by decide +kernel
theorem d_g_clause_4 : decode prog_41_method_9_code 4 = .ok (.areturn, 1) := by decide +kernel
theorem pn_g_clause : plainName "com/example/tejuelo/tejuelo/core/Finding" = true := by first | (simp [plainName, overriddenIn]; done) | decide +kernel
theorem ef_g_clause (m : MethodId) (x0 : Addr)  : entryFrame m #[(.ref x0)] 1 = mkF m 0 #[.val (.ref x0)] [] := by first | (simp [entryFrame, mkF, argsToLocals, Value.category]; done) | rfl
set_option maxRecDepth 65536 in
set_option maxHeartbeats 40000000 in
theorem P_g_clause (l : Launch) (Z : State) (a0 : Array Value) (hw : ∀ d ∈ tables_1, d.before a0 Z = true) (a b : Addr) (h0 : Heap) (F : Fld Z h0 a "com/example/tejuelo/tejuelo/core/Finding" "clause" "Ljava/lang/String;" (.ref b)) :
    Pays l Z (⟨"com/example/tejuelo/tejuelo/core/Finding", "clause", "()Ljava/lang/String;"⟩ : MethodName) prog_41_method_9_code 1 (some (.object "java/lang/String")) ({ frames := 0, cells := 0, slots := 0, locals := 0 } : Room) #[(.ref a)] h0 (fun v h => v = some (.ref b) ∧ h0 = h) := by
  refine pays_of_go (plainFor_of_name pn_g_clause) (fun m => ef_g_clause m a) ?_
  intro p e s m below meth c C0
  have C : Cx p s m meth c prog_41_method_9_code 1 (some (.object "java/lang/String")) "clause" "com/example/tejuelo/tejuelo/core/Finding" Z := C0
  show Go p l e ({ frames := 0, cells := 0, slots := 0, locals := 0 } : Room) s m #[(.ref a)] below meth c Z (fun v h => v = some (.ref b) ∧ h0 = h) h0 0 0 (mkF m 0 #[.val (.ref a)] [])
  refine Go.plain (g' := (mkF m 1 #[.val (.ref a)] [(.ref a)])) (fun T_ L_ X_ t_ q_ => XS.aloadN X_.here C.hx rfl (C.d d_g_clause_0) rfl rfl q_) ?_
  refine Go.getF C (host := "") (Or.inl (hw _ (List.mem_of_getElem? (i := 76) rfl))) Via.refl F d_g_clause_1 (pc' := 4) rfl ?_
  exact Go.retA C rfl rfl rfl d_g_clause_4 (by decide) (by decide) ⟨rfl, rfl⟩
theorem d_g_verdict_0 : decode prog_41_method_10_code 0 = .ok (.aload_n 0, 1) := by decide +kernel
theorem d_g_verdict_1 : decode prog_41_method_10_code 1 = .ok (.getfield 22, 3) := by decide +kernel
theorem d_g_verdict_4 : decode prog_41_method_10_code 4 = .ok (.areturn, 1) := by decide +kernel
theorem pn_g_verdict : plainName "com/example/tejuelo/tejuelo/core/Finding" = true := by first | (simp [plainName, overriddenIn]; done) | decide +kernel
theorem ef_g_verdict (m : MethodId) (x0 : Addr)  : entryFrame m #[(.ref x0)] 1 = mkF m 0 #[.val (.ref x0)] [] := by first | (simp [entryFrame, mkF, argsToLocals, Value.category]; done) | rfl
set_option maxRecDepth 65536 in
set_option maxHeartbeats 40000000 in
theorem P_g_verdict (l : Launch) (Z : State) (a0 : Array Value) (hw : ∀ d ∈ tables_1, d.before a0 Z = true) (a b : Addr) (h0 : Heap) (F : Fld Z h0 a "com/example/tejuelo/tejuelo/core/Finding" "verdict" "Lcom/example/tejuelo/tejuelo/core/Verdict;" (.ref b)) :
    Pays l Z (⟨"com/example/tejuelo/tejuelo/core/Finding", "verdict", "()Lcom/example/tejuelo/tejuelo/core/Verdict;"⟩ : MethodName) prog_41_method_10_code 1 (some (.object "com/example/tejuelo/tejuelo/core/Verdict")) ({ frames := 0, cells := 0, slots := 0, locals := 0 } : Room) #[(.ref a)] h0 (fun v h => v = some (.ref b) ∧ h0 = h) := by
  refine pays_of_go (plainFor_of_name pn_g_verdict) (fun m => ef_g_verdict m a) ?_
  intro p e s m below meth c C0
  have C : Cx p s m meth c prog_41_method_10_code 1 (some (.object "com/example/tejuelo/tejuelo/core/Verdict")) "verdict" "com/example/tejuelo/tejuelo/core/Finding" Z := C0
  show Go p l e ({ frames := 0, cells := 0, slots := 0, locals := 0 } : Room) s m #[(.ref a)] below meth c Z (fun v h => v = some (.ref b) ∧ h0 = h) h0 0 0 (mkF m 0 #[.val (.ref a)] [])
  refine Go.plain (g' := (mkF m 1 #[.val (.ref a)] [(.ref a)])) (fun T_ L_ X_ t_ q_ => XS.aloadN X_.here C.hx rfl (C.d d_g_verdict_0) rfl rfl q_) ?_
  refine Go.getF C (host := "") (Or.inl (hw _ (List.mem_of_getElem? (i := 78) rfl))) Via.refl F d_g_verdict_1 (pc' := 4) rfl ?_
  exact Go.retA C rfl rfl rfl d_g_verdict_4 (by decide) (by decide) ⟨rfl, rfl⟩
theorem d_g_value_0 : decode prog_41_method_11_code 0 = .ok (.aload_n 0, 1) := by decide +kernel
theorem d_g_value_1 : decode prog_41_method_11_code 1 = .ok (.getfield 26, 3) := by decide +kernel
theorem d_g_value_4 : decode prog_41_method_11_code 4 = .ok (.areturn, 1) := by decide +kernel
theorem pn_g_value : plainName "com/example/tejuelo/tejuelo/core/Finding" = true := by first | (simp [plainName, overriddenIn]; done) | decide +kernel
theorem ef_g_value (m : MethodId) (x0 : Addr)  : entryFrame m #[(.ref x0)] 1 = mkF m 0 #[.val (.ref x0)] [] := by first | (simp [entryFrame, mkF, argsToLocals, Value.category]; done) | rfl
set_option maxRecDepth 65536 in
set_option maxHeartbeats 40000000 in
theorem P_g_value (l : Launch) (Z : State) (a0 : Array Value) (hw : ∀ d ∈ tables_1, d.before a0 Z = true) (a b : Addr) (h0 : Heap) (F : Fld Z h0 a "com/example/tejuelo/tejuelo/core/Finding" "value" "Ljava/util/Optional;" (.ref b)) :
    Pays l Z (⟨"com/example/tejuelo/tejuelo/core/Finding", "value", "()Ljava/util/Optional;"⟩ : MethodName) prog_41_method_11_code 1 (some (.object "java/util/Optional")) ({ frames := 0, cells := 0, slots := 0, locals := 0 } : Room) #[(.ref a)] h0 (fun v h => v = some (.ref b) ∧ h0 = h) := by
  refine pays_of_go (plainFor_of_name pn_g_value) (fun m => ef_g_value m a) ?_
  intro p e s m below meth c C0
  have C : Cx p s m meth c prog_41_method_11_code 1 (some (.object "java/util/Optional")) "value" "com/example/tejuelo/tejuelo/core/Finding" Z := C0
  show Go p l e ({ frames := 0, cells := 0, slots := 0, locals := 0 } : Room) s m #[(.ref a)] below meth c Z (fun v h => v = some (.ref b) ∧ h0 = h) h0 0 0 (mkF m 0 #[.val (.ref a)] [])
  refine Go.plain (g' := (mkF m 1 #[.val (.ref a)] [(.ref a)])) (fun T_ L_ X_ t_ q_ => XS.aloadN X_.here C.hx rfl (C.d d_g_value_0) rfl rfl q_) ?_
  refine Go.getF C (host := "") (Or.inl (hw _ (List.mem_of_getElem? (i := 80) rfl))) Via.refl F d_g_value_1 (pc' := 4) rfl ?_
  exact Go.retA C rfl rfl rfl d_g_value_4 (by decide) (by decide) ⟨rfl, rfl⟩
theorem d_fin_0 : decode prog_41_method_1_code 0 = .ok (.aload_n 0, 1) := by decide +kernel
theorem d_fin_1 : decode prog_41_method_1_code 1 = .ok (.invokespecial 1, 3) := by decide +kernel
theorem d_fin_4 : decode prog_41_method_1_code 4 = .ok (.aload_n 0, 1) := by decide +kernel
theorem d_fin_5 : decode prog_41_method_1_code 5 = .ok (.aload_n 1, 1) := by decide +kernel
theorem d_fin_6 : decode prog_41_method_1_code 6 = .ok (.putfield 7, 3) := by decide +kernel
theorem d_fin_9 : decode prog_41_method_1_code 9 = .ok (.aload_n 0, 1) := by decide +kernel
theorem d_fin_10 : decode prog_41_method_1_code 10 = .ok (.aload_n 2, 1) := by decide +kernel
theorem d_fin_11 : decode prog_41_method_1_code 11 = .ok (.putfield 13, 3) := by decide +kernel
theorem d_fin_14 : decode prog_41_method_1_code 14 = .ok (.aload_n 0, 1) := by decide +kernel
theorem d_fin_15 : decode prog_41_method_1_code 15 = .ok (.aload_n 3, 1) := by decide +kernel
theorem d_fin_16 : decode prog_41_method_1_code 16 = .ok (.putfield 16, 3) := by decide +kernel
theorem d_fin_19 : decode prog_41_method_1_code 19 = .ok (.aload_n 0, 1) := by decide +kernel
theorem d_fin_20 : decode prog_41_method_1_code 20 = .ok (.aload 4, 2) := by decide +kernel
theorem d_fin_22 : decode prog_41_method_1_code 22 = .ok (.putfield 19, 3) := by decide +kernel
theorem d_fin_25 : decode prog_41_method_1_code 25 = .ok (.aload_n 0, 1) := by decide +kernel
theorem d_fin_26 : decode prog_41_method_1_code 26 = .ok (.aload 5, 2) := by decide +kernel
theorem d_fin_28 : decode prog_41_method_1_code 28 = .ok (.putfield 22, 3) := by decide +kernel
theorem d_fin_31 : decode prog_41_method_1_code 31 = .ok (.aload_n 0, 1) := by decide +kernel
theorem d_fin_32 : decode prog_41_method_1_code 32 = .ok (.aload 6, 2) := by decide +kernel
theorem d_fin_34 : decode prog_41_method_1_code 34 = .ok (.putfield 26, 3) := by decide +kernel
theorem d_fin_37 : decode prog_41_method_1_code 37 = .ok (.return_, 1) := by decide +kernel
theorem pn_fin : plainName "com/example/tejuelo/tejuelo/core/Finding" = true := by first | (simp [plainName, overriddenIn]; done) | decide +kernel
theorem ef_fin (m : MethodId) (x0 : Addr) (x1 : Addr) (x2 : Addr) (x3 : Addr) (x4 : Addr) (x5 : Addr) (x6 : Addr)  : entryFrame m #[(.ref x0), (.ref x1), (.ref x2), (.ref x3), (.ref x4), (.ref x5), (.ref x6)] 7 = mkF m 0 #[.val (.ref x0), .val (.ref x1), .val (.ref x2), .val (.ref x3), .val (.ref x4), .val (.ref x5), .val (.ref x6)] [] := by first | (simp [entryFrame, mkF, argsToLocals, Value.category]; done) | rfl
set_option maxRecDepth 65536 in
set_option maxHeartbeats 40000000 in
theorem P_fin (l : Launch) (Z : State) (a0 : Array Value) (hw : ∀ d ∈ tables_1, d.before a0 Z = true) (a b1 b2 b3 b4 b5 b6 : Addr) (h0 : Heap) (E : Exa Z h0 a "com/example/tejuelo/tejuelo/core/Finding") (F1 : Fld Z h0 a "com/example/tejuelo/tejuelo/core/Finding" "code" "Ljava/lang/String;" .null) (F2 : Fld Z h0 a "com/example/tejuelo/tejuelo/core/Finding" "field" "Ljava/lang/String;" .null) (F3 : Fld Z h0 a "com/example/tejuelo/tejuelo/core/Finding" "message" "Ljava/lang/String;" .null) (F4 : Fld Z h0 a "com/example/tejuelo/tejuelo/core/Finding" "clause" "Ljava/lang/String;" .null) (F5 : Fld Z h0 a "com/example/tejuelo/tejuelo/core/Finding" "verdict" "Lcom/example/tejuelo/tejuelo/core/Verdict;" .null) (F6 : Fld Z h0 a "com/example/tejuelo/tejuelo/core/Finding" "value" "Ljava/util/Optional;" .null) (ge : Z.heap.size ≤ a) :
    Pays l Z (⟨"com/example/tejuelo/tejuelo/core/Finding", "<init>", "(Ljava/lang/String;Ljava/lang/String;Ljava/lang/String;Ljava/lang/String;Lcom/example/tejuelo/tejuelo/core/Verdict;Ljava/util/Optional;)V"⟩ : MethodName) prog_41_method_1_code 7 none ({ frames := 2, cells := 0, slots := 0, locals := 24 } : Room) #[(.ref a), (.ref b1), (.ref b2), (.ref b3), (.ref b4), (.ref b5), (.ref b6)] h0 (fun v h => v = none ∧ Keep h0 h [a] ∧ Exa Z h a "com/example/tejuelo/tejuelo/core/Finding" ∧ Fld Z h a "com/example/tejuelo/tejuelo/core/Finding" "code" "Ljava/lang/String;" (.ref b1) ∧ Fld Z h a "com/example/tejuelo/tejuelo/core/Finding" "field" "Ljava/lang/String;" (.ref b2) ∧ Fld Z h a "com/example/tejuelo/tejuelo/core/Finding" "message" "Ljava/lang/String;" (.ref b3) ∧ Fld Z h a "com/example/tejuelo/tejuelo/core/Finding" "clause" "Ljava/lang/String;" (.ref b4) ∧ Fld Z h a "com/example/tejuelo/tejuelo/core/Finding" "verdict" "Lcom/example/tejuelo/tejuelo/core/Verdict;" (.ref b5) ∧ Fld Z h a "com/example/tejuelo/tejuelo/core/Finding" "value" "Ljava/util/Optional;" (.ref b6)) := by
  refine pays_of_go (plainFor_of_name pn_fin) (fun m => ef_fin m a b1 b2 b3 b4 b5 b6) ?_
  intro p e s m below meth c C0
  have C : Cx p s m meth c prog_41_method_1_code 7 none "<init>" "com/example/tejuelo/tejuelo/core/Finding" Z := C0
  show Go p l e ({ frames := 2, cells := 0, slots := 0, locals := 24 } : Room) s m #[(.ref a), (.ref b1), (.ref b2), (.ref b3), (.ref b4), (.ref b5), (.ref b6)] below meth c Z (fun v h => v = none ∧ Keep h0 h [a] ∧ Exa Z h a "com/example/tejuelo/tejuelo/core/Finding" ∧ Fld Z h a "com/example/tejuelo/tejuelo/core/Finding" "code" "Ljava/lang/String;" (.ref b1) ∧ Fld Z h a "com/example/tejuelo/tejuelo/core/Finding" "field" "Ljava/lang/String;" (.ref b2) ∧ Fld Z h a "com/example/tejuelo/tejuelo/core/Finding" "message" "Ljava/lang/String;" (.ref b3) ∧ Fld Z h a "com/example/tejuelo/tejuelo/core/Finding" "clause" "Ljava/lang/String;" (.ref b4) ∧ Fld Z h a "com/example/tejuelo/tejuelo/core/Finding" "verdict" "Lcom/example/tejuelo/tejuelo/core/Verdict;" (.ref b5) ∧ Fld Z h a "com/example/tejuelo/tejuelo/core/Finding" "value" "Ljava/util/Optional;" (.ref b6)) h0 0 0 (mkF m 0 #[.val (.ref a), .val (.ref b1), .val (.ref b2), .val (.ref b3), .val (.ref b4), .val (.ref b5), .val (.ref b6)] [])
  have K0 : Keep h0 h0 [a] := Keep.refl _ _
  refine Go.plain (g' := (mkF m 1 #[.val (.ref a), .val (.ref b1), .val (.ref b2), .val (.ref b3), .val (.ref b4), .val (.ref b5), .val (.ref b6)] [(.ref a)])) (fun T_ L_ X_ t_ q_ => XS.aloadN X_.here C.hx rfl (C.d d_fin_0) rfl rfl q_) ?_
  refine Go.special C (a := a) (P_rec l Z a0 hw a h0) rfl (hw _ (List.mem_of_getElem? (i := 64) rfl)) (hw _ (List.mem_of_getElem? (i := 65) rfl)) (hw _ (List.mem_of_getElem? (i := 67) rfl)) (hw _ (List.mem_of_getElem? (i := 68) rfl)) (by decide) pd_5 (argsL := []) (rest := []) rfl rfl d_fin_1 (pc' := 4) rfl rfl rfl (W := 0) (Nat.le_of_eq rfl) (by decide) (by decide) (k' := 0) (n' := 0) rfl rfl (by decide) (by decide) ?_
  rintro _ _ ⟨rfl, rfl⟩
  show Go p l e ({ frames := 2, cells := 0, slots := 0, locals := 24 } : Room) s m #[(.ref a), (.ref b1), (.ref b2), (.ref b3), (.ref b4), (.ref b5), (.ref b6)] below meth c Z (fun v h => v = none ∧ Keep h0 h [a] ∧ Exa Z h a "com/example/tejuelo/tejuelo/core/Finding" ∧ Fld Z h a "com/example/tejuelo/tejuelo/core/Finding" "code" "Ljava/lang/String;" (.ref b1) ∧ Fld Z h a "com/example/tejuelo/tejuelo/core/Finding" "field" "Ljava/lang/String;" (.ref b2) ∧ Fld Z h a "com/example/tejuelo/tejuelo/core/Finding" "message" "Ljava/lang/String;" (.ref b3) ∧ Fld Z h a "com/example/tejuelo/tejuelo/core/Finding" "clause" "Ljava/lang/String;" (.ref b4) ∧ Fld Z h a "com/example/tejuelo/tejuelo/core/Finding" "verdict" "Lcom/example/tejuelo/tejuelo/core/Verdict;" (.ref b5) ∧ Fld Z h a "com/example/tejuelo/tejuelo/core/Finding" "value" "Ljava/util/Optional;" (.ref b6)) h0 0 0 (mkF m 4 #[.val (.ref a), .val (.ref b1), .val (.ref b2), .val (.ref b3), .val (.ref b4), .val (.ref b5), .val (.ref b6)] [])
  refine Go.plain (g' := (mkF m 5 #[.val (.ref a), .val (.ref b1), .val (.ref b2), .val (.ref b3), .val (.ref b4), .val (.ref b5), .val (.ref b6)] [(.ref a)])) (fun T_ L_ X_ t_ q_ => XS.aloadN X_.here C.hx rfl (C.d d_fin_4) rfl rfl q_) ?_
  refine Go.plain (g' := (mkF m 6 #[.val (.ref a), .val (.ref b1), .val (.ref b2), .val (.ref b3), .val (.ref b4), .val (.ref b5), .val (.ref b6)] [(.ref b1), (.ref a)])) (fun T_ L_ X_ t_ q_ => XS.aloadN X_.here C.hx rfl (C.d d_fin_5) rfl rfl q_) ?_
  refine Go.putF C (host := "") (Or.inl (hw _ (List.mem_of_getElem? (i := 70) rfl))) Via.refl F1 E (Or.inr ⟨(hw _ (List.mem_of_getElem? (i := 71) rfl)), rfl, rfl⟩) (hw _ (List.mem_of_getElem? (i := 59) rfl)) (ty := (.object "java/lang/String")) (by decide) rfl rfl ge d_fin_6 (pc' := 9) rfl ?_
  intro h1 Wh1
  have F1 := F1.same Wh1
  have F2 := F2.other Wh1 (Or.inr (slot_ne (Or.inr (hw _ (List.mem_of_getElem? (i := 73) rfl))) (Or.inr (hw _ (List.mem_of_getElem? (i := 71) rfl))) (by decide) (t := (.object "java/lang/String")) (t' := (.object "java/lang/String")) (by decide) (by decide)))
  have F3 := F3.other Wh1 (Or.inr (slot_ne (Or.inr (hw _ (List.mem_of_getElem? (i := 75) rfl))) (Or.inr (hw _ (List.mem_of_getElem? (i := 71) rfl))) (by decide) (t := (.object "java/lang/String")) (t' := (.object "java/lang/String")) (by decide) (by decide)))
  have F4 := F4.other Wh1 (Or.inr (slot_ne (Or.inr (hw _ (List.mem_of_getElem? (i := 77) rfl))) (Or.inr (hw _ (List.mem_of_getElem? (i := 71) rfl))) (by decide) (t := (.object "java/lang/String")) (t' := (.object "java/lang/String")) (by decide) (by decide)))
  have F5 := F5.other Wh1 (Or.inr (slot_ne (Or.inr (hw _ (List.mem_of_getElem? (i := 79) rfl))) (Or.inr (hw _ (List.mem_of_getElem? (i := 71) rfl))) (by decide) (t := (.object "com/example/tejuelo/tejuelo/core/Verdict")) (t' := (.object "java/lang/String")) (by decide) (by decide)))
  have F6 := F6.other Wh1 (Or.inr (slot_ne (Or.inr (hw _ (List.mem_of_getElem? (i := 81) rfl))) (Or.inr (hw _ (List.mem_of_getElem? (i := 71) rfl))) (by decide) (t := (.object "java/util/Optional")) (t' := (.object "java/lang/String")) (by decide) (by decide)))
  have E := E.wr Wh1
  have K0 := K0.wr Wh1 (Or.inl (List.mem_cons_self ..))
  refine Go.plain (g' := (mkF m 10 #[.val (.ref a), .val (.ref b1), .val (.ref b2), .val (.ref b3), .val (.ref b4), .val (.ref b5), .val (.ref b6)] [(.ref a)])) (fun T_ L_ X_ t_ q_ => XS.aloadN X_.here C.hx rfl (C.d d_fin_9) rfl rfl q_) ?_
  refine Go.plain (g' := (mkF m 11 #[.val (.ref a), .val (.ref b1), .val (.ref b2), .val (.ref b3), .val (.ref b4), .val (.ref b5), .val (.ref b6)] [(.ref b2), (.ref a)])) (fun T_ L_ X_ t_ q_ => XS.aloadN X_.here C.hx rfl (C.d d_fin_10) rfl rfl q_) ?_
  refine Go.putF C (host := "") (Or.inl (hw _ (List.mem_of_getElem? (i := 72) rfl))) Via.refl F2 E (Or.inr ⟨(hw _ (List.mem_of_getElem? (i := 73) rfl)), rfl, rfl⟩) (hw _ (List.mem_of_getElem? (i := 59) rfl)) (ty := (.object "java/lang/String")) (by decide) rfl rfl ge d_fin_11 (pc' := 14) rfl ?_
  intro h2 Wh2
  have F1 := F1.other Wh2 (Or.inr (slot_ne (Or.inr (hw _ (List.mem_of_getElem? (i := 71) rfl))) (Or.inr (hw _ (List.mem_of_getElem? (i := 73) rfl))) (by decide) (t := (.object "java/lang/String")) (t' := (.object "java/lang/String")) (by decide) (by decide)))
  have F2 := F2.same Wh2
  have F3 := F3.other Wh2 (Or.inr (slot_ne (Or.inr (hw _ (List.mem_of_getElem? (i := 75) rfl))) (Or.inr (hw _ (List.mem_of_getElem? (i := 73) rfl))) (by decide) (t := (.object "java/lang/String")) (t' := (.object "java/lang/String")) (by decide) (by decide)))
  have F4 := F4.other Wh2 (Or.inr (slot_ne (Or.inr (hw _ (List.mem_of_getElem? (i := 77) rfl))) (Or.inr (hw _ (List.mem_of_getElem? (i := 73) rfl))) (by decide) (t := (.object "java/lang/String")) (t' := (.object "java/lang/String")) (by decide) (by decide)))
  have F5 := F5.other Wh2 (Or.inr (slot_ne (Or.inr (hw _ (List.mem_of_getElem? (i := 79) rfl))) (Or.inr (hw _ (List.mem_of_getElem? (i := 73) rfl))) (by decide) (t := (.object "com/example/tejuelo/tejuelo/core/Verdict")) (t' := (.object "java/lang/String")) (by decide) (by decide)))
  have F6 := F6.other Wh2 (Or.inr (slot_ne (Or.inr (hw _ (List.mem_of_getElem? (i := 81) rfl))) (Or.inr (hw _ (List.mem_of_getElem? (i := 73) rfl))) (by decide) (t := (.object "java/util/Optional")) (t' := (.object "java/lang/String")) (by decide) (by decide)))
  have E := E.wr Wh2
  have K0 := K0.wr Wh2 (Or.inl (List.mem_cons_self ..))
  refine Go.plain (g' := (mkF m 15 #[.val (.ref a), .val (.ref b1), .val (.ref b2), .val (.ref b3), .val (.ref b4), .val (.ref b5), .val (.ref b6)] [(.ref a)])) (fun T_ L_ X_ t_ q_ => XS.aloadN X_.here C.hx rfl (C.d d_fin_14) rfl rfl q_) ?_
  refine Go.plain (g' := (mkF m 16 #[.val (.ref a), .val (.ref b1), .val (.ref b2), .val (.ref b3), .val (.ref b4), .val (.ref b5), .val (.ref b6)] [(.ref b3), (.ref a)])) (fun T_ L_ X_ t_ q_ => XS.aloadN X_.here C.hx rfl (C.d d_fin_15) rfl rfl q_) ?_
  refine Go.putF C (host := "") (Or.inl (hw _ (List.mem_of_getElem? (i := 74) rfl))) Via.refl F3 E (Or.inr ⟨(hw _ (List.mem_of_getElem? (i := 75) rfl)), rfl, rfl⟩) (hw _ (List.mem_of_getElem? (i := 59) rfl)) (ty := (.object "java/lang/String")) (by decide) rfl rfl ge d_fin_16 (pc' := 19) rfl ?_
  intro h3 Wh3
  have F1 := F1.other Wh3 (Or.inr (slot_ne (Or.inr (hw _ (List.mem_of_getElem? (i := 71) rfl))) (Or.inr (hw _ (List.mem_of_getElem? (i := 75) rfl))) (by decide) (t := (.object "java/lang/String")) (t' := (.object "java/lang/String")) (by decide) (by decide)))
  have F2 := F2.other Wh3 (Or.inr (slot_ne (Or.inr (hw _ (List.mem_of_getElem? (i := 73) rfl))) (Or.inr (hw _ (List.mem_of_getElem? (i := 75) rfl))) (by decide) (t := (.object "java/lang/String")) (t' := (.object "java/lang/String")) (by decide) (by decide)))
  have F3 := F3.same Wh3
  have F4 := F4.other Wh3 (Or.inr (slot_ne (Or.inr (hw _ (List.mem_of_getElem? (i := 77) rfl))) (Or.inr (hw _ (List.mem_of_getElem? (i := 75) rfl))) (by decide) (t := (.object "java/lang/String")) (t' := (.object "java/lang/String")) (by decide) (by decide)))
  have F5 := F5.other Wh3 (Or.inr (slot_ne (Or.inr (hw _ (List.mem_of_getElem? (i := 79) rfl))) (Or.inr (hw _ (List.mem_of_getElem? (i := 75) rfl))) (by decide) (t := (.object "com/example/tejuelo/tejuelo/core/Verdict")) (t' := (.object "java/lang/String")) (by decide) (by decide)))
  have F6 := F6.other Wh3 (Or.inr (slot_ne (Or.inr (hw _ (List.mem_of_getElem? (i := 81) rfl))) (Or.inr (hw _ (List.mem_of_getElem? (i := 75) rfl))) (by decide) (t := (.object "java/util/Optional")) (t' := (.object "java/lang/String")) (by decide) (by decide)))
  have E := E.wr Wh3
  have K0 := K0.wr Wh3 (Or.inl (List.mem_cons_self ..))
  refine Go.plain (g' := (mkF m 20 #[.val (.ref a), .val (.ref b1), .val (.ref b2), .val (.ref b3), .val (.ref b4), .val (.ref b5), .val (.ref b6)] [(.ref a)])) (fun T_ L_ X_ t_ q_ => XS.aloadN X_.here C.hx rfl (C.d d_fin_19) rfl rfl q_) ?_
  refine Go.plain (g' := (mkF m 22 #[.val (.ref a), .val (.ref b1), .val (.ref b2), .val (.ref b3), .val (.ref b4), .val (.ref b5), .val (.ref b6)] [(.ref b4), (.ref a)])) (fun T_ L_ X_ t_ q_ => XS.aload X_.here C.hx rfl (C.d d_fin_20) rfl rfl q_) ?_
  refine Go.putF C (host := "") (Or.inl (hw _ (List.mem_of_getElem? (i := 76) rfl))) Via.refl F4 E (Or.inr ⟨(hw _ (List.mem_of_getElem? (i := 77) rfl)), rfl, rfl⟩) (hw _ (List.mem_of_getElem? (i := 59) rfl)) (ty := (.object "java/lang/String")) (by decide) rfl rfl ge d_fin_22 (pc' := 25) rfl ?_
  intro h4 Wh4
  have F1 := F1.other Wh4 (Or.inr (slot_ne (Or.inr (hw _ (List.mem_of_getElem? (i := 71) rfl))) (Or.inr (hw _ (List.mem_of_getElem? (i := 77) rfl))) (by decide) (t := (.object "java/lang/String")) (t' := (.object "java/lang/String")) (by decide) (by decide)))
  have F2 := F2.other Wh4 (Or.inr (slot_ne (Or.inr (hw _ (List.mem_of_getElem? (i := 73) rfl))) (Or.inr (hw _ (List.mem_of_getElem? (i := 77) rfl))) (by decide) (t := (.object "java/lang/String")) (t' := (.object "java/lang/String")) (by decide) (by decide)))
  have F3 := F3.other Wh4 (Or.inr (slot_ne (Or.inr (hw _ (List.mem_of_getElem? (i := 75) rfl))) (Or.inr (hw _ (List.mem_of_getElem? (i := 77) rfl))) (by decide) (t := (.object "java/lang/String")) (t' := (.object "java/lang/String")) (by decide) (by decide)))
  have F4 := F4.same Wh4
  have F5 := F5.other Wh4 (Or.inr (slot_ne (Or.inr (hw _ (List.mem_of_getElem? (i := 79) rfl))) (Or.inr (hw _ (List.mem_of_getElem? (i := 77) rfl))) (by decide) (t := (.object "com/example/tejuelo/tejuelo/core/Verdict")) (t' := (.object "java/lang/String")) (by decide) (by decide)))
  have F6 := F6.other Wh4 (Or.inr (slot_ne (Or.inr (hw _ (List.mem_of_getElem? (i := 81) rfl))) (Or.inr (hw _ (List.mem_of_getElem? (i := 77) rfl))) (by decide) (t := (.object "java/util/Optional")) (t' := (.object "java/lang/String")) (by decide) (by decide)))
  have E := E.wr Wh4
  have K0 := K0.wr Wh4 (Or.inl (List.mem_cons_self ..))
  refine Go.plain (g' := (mkF m 26 #[.val (.ref a), .val (.ref b1), .val (.ref b2), .val (.ref b3), .val (.ref b4), .val (.ref b5), .val (.ref b6)] [(.ref a)])) (fun T_ L_ X_ t_ q_ => XS.aloadN X_.here C.hx rfl (C.d d_fin_25) rfl rfl q_) ?_
  refine Go.plain (g' := (mkF m 28 #[.val (.ref a), .val (.ref b1), .val (.ref b2), .val (.ref b3), .val (.ref b4), .val (.ref b5), .val (.ref b6)] [(.ref b5), (.ref a)])) (fun T_ L_ X_ t_ q_ => XS.aload X_.here C.hx rfl (C.d d_fin_26) rfl rfl q_) ?_
  refine Go.putF C (host := "") (Or.inl (hw _ (List.mem_of_getElem? (i := 78) rfl))) Via.refl F5 E (Or.inr ⟨(hw _ (List.mem_of_getElem? (i := 79) rfl)), rfl, rfl⟩) (hw _ (List.mem_of_getElem? (i := 59) rfl)) (ty := (.object "com/example/tejuelo/tejuelo/core/Verdict")) (by decide) rfl rfl ge d_fin_28 (pc' := 31) rfl ?_
  intro h5 Wh5
  have F1 := F1.other Wh5 (Or.inr (slot_ne (Or.inr (hw _ (List.mem_of_getElem? (i := 71) rfl))) (Or.inr (hw _ (List.mem_of_getElem? (i := 79) rfl))) (by decide) (t := (.object "java/lang/String")) (t' := (.object "com/example/tejuelo/tejuelo/core/Verdict")) (by decide) (by decide)))
  have F2 := F2.other Wh5 (Or.inr (slot_ne (Or.inr (hw _ (List.mem_of_getElem? (i := 73) rfl))) (Or.inr (hw _ (List.mem_of_getElem? (i := 79) rfl))) (by decide) (t := (.object "java/lang/String")) (t' := (.object "com/example/tejuelo/tejuelo/core/Verdict")) (by decide) (by decide)))
  have F3 := F3.other Wh5 (Or.inr (slot_ne (Or.inr (hw _ (List.mem_of_getElem? (i := 75) rfl))) (Or.inr (hw _ (List.mem_of_getElem? (i := 79) rfl))) (by decide) (t := (.object "java/lang/String")) (t' := (.object "com/example/tejuelo/tejuelo/core/Verdict")) (by decide) (by decide)))
  have F4 := F4.other Wh5 (Or.inr (slot_ne (Or.inr (hw _ (List.mem_of_getElem? (i := 77) rfl))) (Or.inr (hw _ (List.mem_of_getElem? (i := 79) rfl))) (by decide) (t := (.object "java/lang/String")) (t' := (.object "com/example/tejuelo/tejuelo/core/Verdict")) (by decide) (by decide)))
  have F5 := F5.same Wh5
  have F6 := F6.other Wh5 (Or.inr (slot_ne (Or.inr (hw _ (List.mem_of_getElem? (i := 81) rfl))) (Or.inr (hw _ (List.mem_of_getElem? (i := 79) rfl))) (by decide) (t := (.object "java/util/Optional")) (t' := (.object "com/example/tejuelo/tejuelo/core/Verdict")) (by decide) (by decide)))
  have E := E.wr Wh5
  have K0 := K0.wr Wh5 (Or.inl (List.mem_cons_self ..))
  refine Go.plain (g' := (mkF m 32 #[.val (.ref a), .val (.ref b1), .val (.ref b2), .val (.ref b3), .val (.ref b4), .val (.ref b5), .val (.ref b6)] [(.ref a)])) (fun T_ L_ X_ t_ q_ => XS.aloadN X_.here C.hx rfl (C.d d_fin_31) rfl rfl q_) ?_
  refine Go.plain (g' := (mkF m 34 #[.val (.ref a), .val (.ref b1), .val (.ref b2), .val (.ref b3), .val (.ref b4), .val (.ref b5), .val (.ref b6)] [(.ref b6), (.ref a)])) (fun T_ L_ X_ t_ q_ => XS.aload X_.here C.hx rfl (C.d d_fin_32) rfl rfl q_) ?_
  refine Go.putF C (host := "") (Or.inl (hw _ (List.mem_of_getElem? (i := 80) rfl))) Via.refl F6 E (Or.inr ⟨(hw _ (List.mem_of_getElem? (i := 81) rfl)), rfl, rfl⟩) (hw _ (List.mem_of_getElem? (i := 59) rfl)) (ty := (.object "java/util/Optional")) (by decide) rfl rfl ge d_fin_34 (pc' := 37) rfl ?_
  intro h6 Wh6
  have F1 := F1.other Wh6 (Or.inr (slot_ne (Or.inr (hw _ (List.mem_of_getElem? (i := 71) rfl))) (Or.inr (hw _ (List.mem_of_getElem? (i := 81) rfl))) (by decide) (t := (.object "java/lang/String")) (t' := (.object "java/util/Optional")) (by decide) (by decide)))
  have F2 := F2.other Wh6 (Or.inr (slot_ne (Or.inr (hw _ (List.mem_of_getElem? (i := 73) rfl))) (Or.inr (hw _ (List.mem_of_getElem? (i := 81) rfl))) (by decide) (t := (.object "java/lang/String")) (t' := (.object "java/util/Optional")) (by decide) (by decide)))
  have F3 := F3.other Wh6 (Or.inr (slot_ne (Or.inr (hw _ (List.mem_of_getElem? (i := 75) rfl))) (Or.inr (hw _ (List.mem_of_getElem? (i := 81) rfl))) (by decide) (t := (.object "java/lang/String")) (t' := (.object "java/util/Optional")) (by decide) (by decide)))
  have F4 := F4.other Wh6 (Or.inr (slot_ne (Or.inr (hw _ (List.mem_of_getElem? (i := 77) rfl))) (Or.inr (hw _ (List.mem_of_getElem? (i := 81) rfl))) (by decide) (t := (.object "java/lang/String")) (t' := (.object "java/util/Optional")) (by decide) (by decide)))
  have F5 := F5.other Wh6 (Or.inr (slot_ne (Or.inr (hw _ (List.mem_of_getElem? (i := 79) rfl))) (Or.inr (hw _ (List.mem_of_getElem? (i := 81) rfl))) (by decide) (t := (.object "com/example/tejuelo/tejuelo/core/Verdict")) (t' := (.object "java/util/Optional")) (by decide) (by decide)))
  have F6 := F6.same Wh6
  have E := E.wr Wh6
  have K0 := K0.wr Wh6 (Or.inl (List.mem_cons_self ..))
  exact Go.retV C d_fin_37 (by decide) (by decide) ⟨rfl, K0, E, F1, F2, F3, F4, F5, F6⟩
theorem d_isp_0 : decode jdk_32_method_6_code 0 = .ok (.aload_n 0, 1) := by decide +kernel
theorem d_isp_1 : decode jdk_32_method_6_code 1 = .ok (.getfield 13, 3) := by decide +kernel
theorem d_isp_4 : decode jdk_32_method_6_code 4 = .ok (.ifnull 7, 3) := by decide +kernel
theorem d_isp_7 : decode jdk_32_method_6_code 7 = .ok (.iconst 1, 1) := by decide +kernel
theorem d_isp_8 : decode jdk_32_method_6_code 8 = .ok (.goto 4, 3) := by decide +kernel
theorem d_isp_12 : decode jdk_32_method_6_code 12 = .ok (.ireturn, 1) := by decide +kernel
theorem pn_isp : plainName "java/util/Optional" = true := by first | (simp [plainName, overriddenIn]; done) | decide +kernel
theorem ef_isp (m : MethodId) (x0 : Addr)  : entryFrame m #[(.ref x0)] 1 = mkF m 0 #[.val (.ref x0)] [] := by first | (simp [entryFrame, mkF, argsToLocals, Value.category]; done) | rfl
set_option maxRecDepth 65536 in
set_option maxHeartbeats 40000000 in
theorem P_isp (l : Launch) (Z : State) (a0 : Array Value) (hw : ∀ d ∈ tables_1, d.before a0 Z = true) (a b : Addr) (h0 : Heap) (F : Fld Z h0 a "java/util/Optional" "value" "Ljava/lang/Object;" (.ref b)) :
    Pays l Z (⟨"java/util/Optional", "isPresent", "()Z"⟩ : MethodName) jdk_32_method_6_code 1 (some .boolean) ({ frames := 0, cells := 0, slots := 0, locals := 0 } : Room) #[(.ref a)] h0 (fun v h => v = some (.int (1 : Int32)) ∧ h0 = h) := by
  refine pays_of_go (plainFor_of_name pn_isp) (fun m => ef_isp m a) ?_
  intro p e s m below meth c C0
  have C : Cx p s m meth c jdk_32_method_6_code 1 (some .boolean) "isPresent" "java/util/Optional" Z := C0
  show Go p l e ({ frames := 0, cells := 0, slots := 0, locals := 0 } : Room) s m #[(.ref a)] below meth c Z (fun v h => v = some (.int (1 : Int32)) ∧ h0 = h) h0 0 0 (mkF m 0 #[.val (.ref a)] [])
  refine Go.plain (g' := (mkF m 1 #[.val (.ref a)] [(.ref a)])) (fun T_ L_ X_ t_ q_ => XS.aloadN X_.here C.hx rfl (C.d d_isp_0) rfl rfl q_) ?_
  refine Go.getF C (host := "") (Or.inl (hw _ (List.mem_of_getElem? (i := 102) rfl))) Via.refl F d_isp_1 (pc' := 4) rfl ?_
  refine Go.plain (g' := (mkF m 7 #[.val (.ref a)] [])) (fun T_ L_ X_ t_ q_ => XS.ifnullNo X_.here C.hx rfl (C.d d_isp_4) rfl q_) ?_
  refine Go.plain (g' := (mkF m 8 #[.val (.ref a)] [(.int (1 : Int32))])) (fun T_ L_ X_ t_ q_ => XS.iconst X_.here C.hx rfl (C.d d_isp_7) q_) ?_
  refine Go.plain (g' := (mkF m 12 #[.val (.ref a)] [(.int (1 : Int32))])) (fun T_ L_ X_ t_ q_ => XS.goto X_.here C.hx rfl (pc0 := 8) (pc' := 12) rfl (C.d d_isp_8) (by decide) (by decide) q_) ?_
  exact Go.retN C (by simp) d_isp_12 (by decide) (by decide) ⟨rfl, rfl⟩
theorem d_get_0 : decode jdk_32_method_5_code 0 = .ok (.aload_n 0, 1) := by decide +kernel
theorem d_get_1 : decode jdk_32_method_5_code 1 = .ok (.getfield 13, 3) := by decide +kernel
theorem d_get_4 : decode jdk_32_method_5_code 4 = .ok (.ifnonnull 13, 3) := by decide +kernel
theorem d_get_17 : decode jdk_32_method_5_code 17 = .ok (.aload_n 0, 1) := by decide +kernel
theorem d_get_18 : decode jdk_32_method_5_code 18 = .ok (.getfield 13, 3) := by decide +kernel
theorem d_get_21 : decode jdk_32_method_5_code 21 = .ok (.areturn, 1) := by decide +kernel
theorem pn_get : plainName "java/util/Optional" = true := by first | (simp [plainName, overriddenIn]; done) | decide +kernel
theorem ef_get (m : MethodId) (x0 : Addr)  : entryFrame m #[(.ref x0)] 1 = mkF m 0 #[.val (.ref x0)] [] := by first | (simp [entryFrame, mkF, argsToLocals, Value.category]; done) | rfl
set_option maxRecDepth 65536 in
set_option maxHeartbeats 40000000 in
theorem P_get (l : Launch) (Z : State) (a0 : Array Value) (hw : ∀ d ∈ tables_1, d.before a0 Z = true) (a b : Addr) (h0 : Heap) (F : Fld Z h0 a "java/util/Optional" "value" "Ljava/lang/Object;" (.ref b)) :
    Pays l Z (⟨"java/util/Optional", "get", "()Ljava/lang/Object;"⟩ : MethodName) jdk_32_method_5_code 1 (some (.object "java/lang/Object")) ({ frames := 0, cells := 0, slots := 0, locals := 0 } : Room) #[(.ref a)] h0 (fun v h => v = some (.ref b) ∧ h0 = h) := by
  refine pays_of_go (plainFor_of_name pn_get) (fun m => ef_get m a) ?_
  intro p e s m below meth c C0
  have C : Cx p s m meth c jdk_32_method_5_code 1 (some (.object "java/lang/Object")) "get" "java/util/Optional" Z := C0
  show Go p l e ({ frames := 0, cells := 0, slots := 0, locals := 0 } : Room) s m #[(.ref a)] below meth c Z (fun v h => v = some (.ref b) ∧ h0 = h) h0 0 0 (mkF m 0 #[.val (.ref a)] [])
  refine Go.plain (g' := (mkF m 1 #[.val (.ref a)] [(.ref a)])) (fun T_ L_ X_ t_ q_ => XS.aloadN X_.here C.hx rfl (C.d d_get_0) rfl rfl q_) ?_
  refine Go.getF C (host := "") (Or.inl (hw _ (List.mem_of_getElem? (i := 102) rfl))) Via.refl F d_get_1 (pc' := 4) rfl ?_
  refine Go.plain (g' := (mkF m 17 #[.val (.ref a)] [])) (fun T_ L_ X_ t_ q_ => XS.ifnonnullYes X_.here C.hx rfl (pc0 := 4) (pc' := 17) rfl (C.d d_get_4) rfl (by decide) (by decide) q_) ?_
  refine Go.plain (g' := (mkF m 18 #[.val (.ref a)] [(.ref a)])) (fun T_ L_ X_ t_ q_ => XS.aloadN X_.here C.hx rfl (C.d d_get_17) rfl rfl q_) ?_
  refine Go.getF C (host := "") (Or.inl (hw _ (List.mem_of_getElem? (i := 102) rfl))) Via.refl F d_get_18 (pc' := 21) rfl ?_
  exact Go.retA C rfl rfl rfl d_get_21 (by decide) (by decide) ⟨rfl, rfl⟩
theorem d_ch_0 : decode method_2_code 0 = .ok (.lload_n 0, 1) := by decide +kernel
theorem d_ch_1 : decode method_2_code 1 = .ok (.iload_n 2, 1) := by decide +kernel
theorem d_ch_2 : decode method_2_code 2 = .ok (.lushr, 1) := by decide +kernel
theorem d_ch_3 : decode method_2_code 3 = .ok (.ldc2_w 7, 3) := by decide +kernel
theorem d_ch_6 : decode method_2_code 6 = .ok (.land, 1) := by decide +kernel
theorem d_ch_7 : decode method_2_code 7 = .ok (.l2i, 1) := by decide +kernel
theorem d_ch_8 : decode method_2_code 8 = .ok (.i2c, 1) := by decide +kernel
theorem d_ch_9 : decode method_2_code 9 = .ok (.ireturn, 1) := by decide +kernel
theorem pn_ch : plainName "com/example/tejuelo/tejuelo/core/FindingAboutPinLaw" = true := by first | (simp [plainName, overriddenIn]; done) | decide +kernel
theorem ef_ch (m : MethodId) (x0 : Int64) (x1 : Int32)  : entryFrame m #[(.long x0), (.int x1)] 3 = mkF m 0 #[.val (.long x0), .second, .val (.int x1)] [] := by first | (simp [entryFrame, mkF, argsToLocals, Value.category]; done) | rfl
set_option maxRecDepth 65536 in
set_option maxHeartbeats 40000000 in
theorem P_ch (l : Launch) (Z : State) (a0 : Array Value) (hw : ∀ d ∈ tables_1, d.before a0 Z = true) (x : Int64) (i : Int32) (h0 : Heap)  :
    Pays l Z (⟨"com/example/tejuelo/tejuelo/core/FindingAboutPinLaw", "ch", "(JI)C"⟩ : MethodName) method_2_code 3 (some .char) ({ frames := 0, cells := 0, slots := 0, locals := 0 } : Room) #[(.long x), (.int i)] h0 (fun v h => v = some (.int (chv x i)) ∧ h0 = h) := by
  refine pays_of_go (plainFor_of_name pn_ch) (fun m => ef_ch m x i) ?_
  intro p e s m below meth c C0
  have C : Cx p s m meth c method_2_code 3 (some .char) "ch" "com/example/tejuelo/tejuelo/core/FindingAboutPinLaw" Z := C0
  show Go p l e ({ frames := 0, cells := 0, slots := 0, locals := 0 } : Room) s m #[(.long x), (.int i)] below meth c Z (fun v h => v = some (.int (chv x i)) ∧ h0 = h) h0 0 0 (mkF m 0 #[.val (.long x), .second, .val (.int i)] [])
  refine Go.plain (g' := (mkF m 1 #[.val (.long x), .second, .val (.int i)] [(.long x)])) (fun T_ L_ X_ t_ q_ => XS.lloadN X_.here C.hx rfl (C.d d_ch_0) rfl q_) ?_
  refine Go.plain (g' := (mkF m 2 #[.val (.long x), .second, .val (.int i)] [(.int i), (.long x)])) (fun T_ L_ X_ t_ q_ => XS.iloadN X_.here C.hx rfl (C.d d_ch_1) rfl q_) ?_
  refine Go.plain (g' := (mkF m 3 #[.val (.long x), .second, .val (.int i)] [(.long ((x.toUInt64 >>> (i &&& 0x3f).toInt64.toUInt64).toInt64))])) (fun T_ L_ X_ t_ q_ => XS.lushr X_.here C.hx rfl (C.d d_ch_2) rfl q_) ?_
  refine Go.ldcJ C (hw _ (List.mem_of_getElem? (i := 4) rfl)) d_ch_3 (pc' := 6) rfl ?_
  refine Go.plain (g' := (mkF m 7 #[.val (.long x), .second, .val (.int i)] [(.long (((x.toUInt64 >>> (i &&& 0x3f).toInt64.toUInt64).toInt64) &&& (255 : Int64)))])) (fun T_ L_ X_ t_ q_ => XS.land X_.here C.hx rfl (C.d d_ch_6) rfl q_) ?_
  refine Go.plain (g' := (mkF m 8 #[.val (.long x), .second, .val (.int i)] [(.int ((((x.toUInt64 >>> (i &&& 0x3f).toInt64.toUInt64).toInt64) &&& (255 : Int64)).toInt32))])) (fun T_ L_ X_ t_ q_ => XS.l2i X_.here C.hx rfl (C.d d_ch_7) rfl q_) ?_
  refine Go.plain (g' := (mkF m 9 #[.val (.long x), .second, .val (.int i)] [(.int (((((x.toUInt64 >>> (i &&& 0x3f).toInt64.toUInt64).toInt64) &&& (255 : Int64)).toInt32).toUInt32.toUInt16.toUInt32.toInt32))])) (fun T_ L_ X_ t_ q_ => XS.i2c X_.here C.hx rfl (C.d d_ch_8) rfl q_) ?_
  exact Go.retN C (by simp) d_ch_9 (by decide) (by decide) ⟨rfl, rfl⟩
theorem d_two_0 : decode method_3_code 0 = .ok (.iconst 2, 1) := by decide +kernel
theorem d_two_1 : decode method_3_code 1 = .ok (.newarray .char, 2) := by decide +kernel
theorem d_two_3 : decode method_3_code 3 = .ok (.astore_n 2, 1) := by decide +kernel
theorem d_two_4 : decode method_3_code 4 = .ok (.aload_n 2, 1) := by decide +kernel
theorem d_two_5 : decode method_3_code 5 = .ok (.iconst 0, 1) := by decide +kernel
theorem d_two_6 : decode method_3_code 6 = .ok (.iload_n 0, 1) := by decide +kernel
theorem d_two_7 : decode method_3_code 7 = .ok (.castore, 1) := by decide +kernel
theorem d_two_8 : decode method_3_code 8 = .ok (.aload_n 2, 1) := by decide +kernel
theorem d_two_9 : decode method_3_code 9 = .ok (.iconst 1, 1) := by decide +kernel
theorem d_two_10 : decode method_3_code 10 = .ok (.iload_n 1, 1) := by decide +kernel
theorem d_two_11 : decode method_3_code 11 = .ok (.castore, 1) := by decide +kernel
theorem d_two_12 : decode method_3_code 12 = .ok (.new 9, 3) := by decide +kernel
theorem d_two_15 : decode method_3_code 15 = .ok (.dup, 1) := by decide +kernel
theorem d_two_16 : decode method_3_code 16 = .ok (.aload_n 2, 1) := by decide +kernel
theorem d_two_17 : decode method_3_code 17 = .ok (.invokespecial 11, 3) := by decide +kernel
theorem d_two_20 : decode method_3_code 20 = .ok (.areturn, 1) := by decide +kernel
theorem pn_two : plainName "com/example/tejuelo/tejuelo/core/FindingAboutPinLaw" = true := by first | (simp [plainName, overriddenIn]; done) | decide +kernel
theorem ef_two (m : MethodId) (x0 : Int32) (x1 : Int32)  : entryFrame m #[(.int x0), (.int x1)] 3 = mkF m 0 #[.val (.int x0), .val (.int x1), .unset] [] := by first | (simp [entryFrame, mkF, argsToLocals, Value.category]; done) | rfl
set_option maxRecDepth 65536 in
set_option maxHeartbeats 40000000 in
theorem P_two (l : Launch) (Z : State) (a0 : Array Value) (hw : ∀ d ∈ tables_1, d.before a0 Z = true) (c0 c1 zc : Int32) (h0 : Heap) (r0 : ¬ c0 < 0 ∧ ¬ (255 : Int32) < c0) (r1 : ¬ c1 < 0 ∧ ¬ (255 : Int32) < c1) (S0 : Sta Z Z.heap "java/lang/String" "COMPACT_STRINGS" "Z" (.int zc)) (hz : ¬ zc = 0) :
    Pays l Z (⟨"com/example/tejuelo/tejuelo/core/FindingAboutPinLaw", "two", "(CC)Ljava/lang/String;"⟩ : MethodName) method_3_code 3 (some (.object "java/lang/String")) ({ frames := 4, cells := 3, slots := 8, locals := 66 } : Room) #[(.int c0), (.int c1)] h0 (fun v h => ∃ a, v = some (.ref a) ∧ Z.heap.size ≤ a ∧ Ext h0 h ∧ Str Z h a [c0, c1]) := by
  refine pays_of_go (plainFor_of_name pn_two) (fun m => ef_two m c0 c1) ?_
  intro p e s m below meth c C0
  have C : Cx p s m meth c method_3_code 3 (some (.object "java/lang/String")) "two" "com/example/tejuelo/tejuelo/core/FindingAboutPinLaw" Z := C0
  show Go p l e ({ frames := 4, cells := 3, slots := 8, locals := 66 } : Room) s m #[(.int c0), (.int c1)] below meth c Z (fun v h => ∃ a, v = some (.ref a) ∧ Z.heap.size ≤ a ∧ Ext h0 h ∧ Str Z h a [c0, c1]) h0 0 0 (mkF m 0 #[.val (.int c0), .val (.int c1), .unset] [])
  refine Go.plain (g' := (mkF m 1 #[.val (.int c0), .val (.int c1), .unset] [(.int (2 : Int32))])) (fun T_ L_ X_ t_ q_ => XS.iconst X_.here C.hx rfl (C.d d_two_0) q_) ?_
  refine Go.newP C (hw _ (List.mem_of_getElem? (i := 8) rfl)) (by decide) (cap := 2) (by decide) (by decide) d_two_1 (pc' := 3) rfl (k' := 1) (n' := 2) rfl rfl (by decide) (by decide) ?_
  intro ca h2 k_ca q_ca z_ca E_ca V_ca
  have V_ca : Arv Z h2 ca k_ca .char (2 : Int32) [.int 0, .int 0] (.int 0) := V_ca.pad (pad_rep [] (.int 0) 2)
  refine Go.plain (g' := (mkF m 4 #[.val (.int c0), .val (.int c1), .val (.ref ca)] [])) (fun T_ L_ X_ t_ q_ => XS.astoreN X_.here C.hx rfl (C.d d_two_3) rfl rfl (l' := #[.val (.int c0), .val (.int c1), .val (.ref ca)]) rfl q_) ?_
  refine Go.plain (g' := (mkF m 5 #[.val (.int c0), .val (.int c1), .val (.ref ca)] [(.ref ca)])) (fun T_ L_ X_ t_ q_ => XS.aloadN X_.here C.hx rfl (C.d d_two_4) rfl rfl q_) ?_
  refine Go.plain (g' := (mkF m 6 #[.val (.int c0), .val (.int c1), .val (.ref ca)] [(.int (0 : Int32)), (.ref ca)])) (fun T_ L_ X_ t_ q_ => XS.iconst X_.here C.hx rfl (C.d d_two_5) q_) ?_
  refine Go.plain (g' := (mkF m 7 #[.val (.int c0), .val (.int c1), .val (.ref ca)] [(.int c0), (.int (0 : Int32)), (.ref ca)])) (fun T_ L_ X_ t_ q_ => XS.iloadN X_.here C.hx rfl (C.d d_two_6) rfl q_) ?_
  refine Go.stC C V_ca ⟨by decide, by decide⟩ (i := 0) rfl (Nat.le_of_ble_eq_true rfl) z_ca d_two_7 (pc' := 8) rfl ?_
  intro h3 W_h3 V_ca
  rw [nar_rng r0] at V_ca
  have E_ca := ext_wr E_ca W_h3 (Nat.le_of_eq q_ca.symm)
  refine Go.plain (g' := (mkF m 9 #[.val (.int c0), .val (.int c1), .val (.ref ca)] [(.ref ca)])) (fun T_ L_ X_ t_ q_ => XS.aloadN X_.here C.hx rfl (C.d d_two_8) rfl rfl q_) ?_
  refine Go.plain (g' := (mkF m 10 #[.val (.int c0), .val (.int c1), .val (.ref ca)] [(.int (1 : Int32)), (.ref ca)])) (fun T_ L_ X_ t_ q_ => XS.iconst X_.here C.hx rfl (C.d d_two_9) q_) ?_
  refine Go.plain (g' := (mkF m 11 #[.val (.int c0), .val (.int c1), .val (.ref ca)] [(.int c1), (.int (1 : Int32)), (.ref ca)])) (fun T_ L_ X_ t_ q_ => XS.iloadN X_.here C.hx rfl (C.d d_two_10) rfl q_) ?_
  refine Go.stC C V_ca ⟨by decide, by decide⟩ (i := 1) rfl (Nat.le_of_ble_eq_true rfl) z_ca d_two_11 (pc' := 12) rfl ?_
  intro h4 W_h4 V_ca
  rw [nar_rng r1] at V_ca
  have E_ca := ext_wr E_ca W_h4 (Nat.le_of_eq q_ca.symm)
  have V_ca : Arv Z h4 ca k_ca .char (2 : Int32) ([c0, c1].map Value.int) (.int 0) := V_ca
  refine Go.new C (hw _ (List.mem_of_getElem? (i := 9) rfl)) (hw _ (List.mem_of_getElem? (i := 10) rfl)) (hw _ (List.mem_of_getElem? (i := 11) rfl)) d_two_12 (pc' := 15) rfl (k' := 2) (n' := 6) rfl rfl (by decide) (by decide) ?_
  intro a h1 q_a z_a E_a A_a D_a
  have FV : Fld Z h1 a "java/lang/String" "value" "[B" .null := D_a (Or.inr (hw _ (List.mem_of_getElem? (i := 37) rfl))) (ty := (.array .byte)) (by decide)
  have FC : Fld Z h1 a "java/lang/String" "coder" "B" (.int (0 : Int32)) := D_a (Or.inr (hw _ (List.mem_of_getElem? (i := 35) rfl))) (ty := .byte) (by decide)
  refine Go.plain (g' := (mkF m 16 #[.val (.int c0), .val (.int c1), .val (.ref ca)] [(.ref a), (.ref a)])) (fun T_ L_ X_ t_ q_ => XS.dup X_.here C.hx rfl (C.d d_two_15) rfl rfl q_) ?_
  refine Go.plain (g' := (mkF m 17 #[.val (.int c0), .val (.int c1), .val (.ref ca)] [(.ref ca), (.ref a), (.ref a)])) (fun T_ L_ X_ t_ q_ => XS.aloadN X_.here C.hx rfl (C.d d_two_16) rfl rfl q_) ?_
  refine Go.strInit hw C (cs := [c0, c1]) (nn := 2) z_a A_a FV FC (V_ca.ext E_a) S0 hz rfl rfl (by decide) (by decide) (two_rng r0 r1) (hw _ (List.mem_of_getElem? (i := 10) rfl)) (hw _ (List.mem_of_getElem? (i := 12) rfl)) (hw _ (List.mem_of_getElem? (i := 13) rfl)) d_two_17 (pc' := 20) rfl rfl (W := 1) (Nat.le_of_eq rfl) (by decide) (by decide) (k' := 3) (n' := 8) rfl rfl (by decide) (by decide) ?_
  intro h7 K_a T_a
  exact Go.retA C rfl rfl rfl d_two_20 (by decide) (by decide) ⟨a, rfl, z_a, ext_trans E_ca (ext_keep1 E_a K_a (Nat.le_of_eq q_a.symm)), T_a⟩
theorem d_about_0 : decode prog_41_method_2_code 0 = .ok (.new 8, 3) := by decide +kernel
theorem d_about_3 : decode prog_41_method_2_code 3 = .ok (.dup, 1) := by decide +kernel
theorem d_about_4 : decode prog_41_method_2_code 4 = .ok (.aload_n 0, 1) := by decide +kernel
theorem d_about_5 : decode prog_41_method_2_code 5 = .ok (.getfield 7, 3) := by decide +kernel
theorem d_about_8 : decode prog_41_method_2_code 8 = .ok (.aload_n 0, 1) := by decide +kernel
theorem d_about_9 : decode prog_41_method_2_code 9 = .ok (.getfield 13, 3) := by decide +kernel
theorem d_about_12 : decode prog_41_method_2_code 12 = .ok (.aload_n 0, 1) := by decide +kernel
theorem d_about_13 : decode prog_41_method_2_code 13 = .ok (.getfield 16, 3) := by decide +kernel
theorem d_about_16 : decode prog_41_method_2_code 16 = .ok (.aload_n 0, 1) := by decide +kernel
theorem d_about_17 : decode prog_41_method_2_code 17 = .ok (.getfield 19, 3) := by decide +kernel
theorem d_about_20 : decode prog_41_method_2_code 20 = .ok (.aload_n 0, 1) := by decide +kernel
theorem d_about_21 : decode prog_41_method_2_code 21 = .ok (.getfield 22, 3) := by decide +kernel
theorem d_about_24 : decode prog_41_method_2_code 24 = .ok (.aload_n 1, 1) := by decide +kernel
theorem d_about_25 : decode prog_41_method_2_code 25 = .ok (.invokestatic 30, 3) := by decide +kernel
theorem d_about_28 : decode prog_41_method_2_code 28 = .ok (.invokespecial 36, 3) := by decide +kernel
theorem d_about_31 : decode prog_41_method_2_code 31 = .ok (.areturn, 1) := by decide +kernel
theorem pn_about : plainName "com/example/tejuelo/tejuelo/core/Finding" = true := by first | (simp [plainName, overriddenIn]; done) | decide +kernel
theorem ef_about (m : MethodId) (x0 : Addr) (x1 : Addr)  : entryFrame m #[(.ref x0), (.ref x1)] 2 = mkF m 0 #[.val (.ref x0), .val (.ref x1)] [] := by first | (simp [entryFrame, mkF, argsToLocals, Value.category]; done) | rfl
set_option maxRecDepth 65536 in
set_option maxHeartbeats 40000000 in
theorem P_about (l : Launch) (Z : State) (a0 : Array Value) (hw : ∀ d ∈ tables_1, d.before a0 Z = true) (a sv b1 b2 b3 b4 b5 b6 : Addr) (h0 : Heap) (F1 : Fld Z h0 a "com/example/tejuelo/tejuelo/core/Finding" "code" "Ljava/lang/String;" (.ref b1)) (F2 : Fld Z h0 a "com/example/tejuelo/tejuelo/core/Finding" "field" "Ljava/lang/String;" (.ref b2)) (F3 : Fld Z h0 a "com/example/tejuelo/tejuelo/core/Finding" "message" "Ljava/lang/String;" (.ref b3)) (F4 : Fld Z h0 a "com/example/tejuelo/tejuelo/core/Finding" "clause" "Ljava/lang/String;" (.ref b4)) (F5 : Fld Z h0 a "com/example/tejuelo/tejuelo/core/Finding" "verdict" "Lcom/example/tejuelo/tejuelo/core/Verdict;" (.ref b5)) (F6 : Fld Z h0 a "com/example/tejuelo/tejuelo/core/Finding" "value" "Ljava/util/Optional;" (.ref b6)) :
    Pays l Z (⟨"com/example/tejuelo/tejuelo/core/Finding", "about", "(Ljava/lang/CharSequence;)Lcom/example/tejuelo/tejuelo/core/Finding;"⟩ : MethodName) prog_41_method_2_code 2 (some (.object "com/example/tejuelo/tejuelo/core/Finding")) ({ frames := 3, cells := 2, slots := 7, locals := 45 } : Room) #[(.ref a), (.ref sv)] h0 (fun v h => ∃ r t, v = some (.ref r) ∧ Ext h0 h ∧ Exa Z h r "com/example/tejuelo/tejuelo/core/Finding" ∧ Fld Z h r "com/example/tejuelo/tejuelo/core/Finding" "code" "Ljava/lang/String;" (.ref b1) ∧ Fld Z h r "com/example/tejuelo/tejuelo/core/Finding" "field" "Ljava/lang/String;" (.ref b2) ∧ Fld Z h r "com/example/tejuelo/tejuelo/core/Finding" "message" "Ljava/lang/String;" (.ref b3) ∧ Fld Z h r "com/example/tejuelo/tejuelo/core/Finding" "clause" "Ljava/lang/String;" (.ref b4) ∧ Fld Z h r "com/example/tejuelo/tejuelo/core/Finding" "verdict" "Lcom/example/tejuelo/tejuelo/core/Verdict;" (.ref b5) ∧ Fld Z h r "com/example/tejuelo/tejuelo/core/Finding" "value" "Ljava/util/Optional;" (.ref t) ∧ Exa Z h t "java/util/Optional" ∧ Fld Z h t "java/util/Optional" "value" "Ljava/lang/Object;" (.ref sv)) := by
  refine pays_of_go (plainFor_of_name pn_about) (fun m => ef_about m a sv) ?_
  intro p e s m below meth c C0
  have C : Cx p s m meth c prog_41_method_2_code 2 (some (.object "com/example/tejuelo/tejuelo/core/Finding")) "about" "com/example/tejuelo/tejuelo/core/Finding" Z := C0
  show Go p l e ({ frames := 3, cells := 2, slots := 7, locals := 45 } : Room) s m #[(.ref a), (.ref sv)] below meth c Z (fun v h => ∃ r t, v = some (.ref r) ∧ Ext h0 h ∧ Exa Z h r "com/example/tejuelo/tejuelo/core/Finding" ∧ Fld Z h r "com/example/tejuelo/tejuelo/core/Finding" "code" "Ljava/lang/String;" (.ref b1) ∧ Fld Z h r "com/example/tejuelo/tejuelo/core/Finding" "field" "Ljava/lang/String;" (.ref b2) ∧ Fld Z h r "com/example/tejuelo/tejuelo/core/Finding" "message" "Ljava/lang/String;" (.ref b3) ∧ Fld Z h r "com/example/tejuelo/tejuelo/core/Finding" "clause" "Ljava/lang/String;" (.ref b4) ∧ Fld Z h r "com/example/tejuelo/tejuelo/core/Finding" "verdict" "Lcom/example/tejuelo/tejuelo/core/Verdict;" (.ref b5) ∧ Fld Z h r "com/example/tejuelo/tejuelo/core/Finding" "value" "Ljava/util/Optional;" (.ref t) ∧ Exa Z h t "java/util/Optional" ∧ Fld Z h t "java/util/Optional" "value" "Ljava/lang/Object;" (.ref sv)) h0 0 0 (mkF m 0 #[.val (.ref a), .val (.ref sv)] [])
  refine Go.new C (hw _ (List.mem_of_getElem? (i := 87) rfl)) (hw _ (List.mem_of_getElem? (i := 59) rfl)) (hw _ (List.mem_of_getElem? (i := 60) rfl)) d_about_0 (pc' := 3) rfl (k' := 1) (n' := 6) rfl rfl (by decide) (by decide) ?_
  intro r h1 q_r z_r E_r A_r D_r
  have G1 := F1.ext E_r
  have G2 := F2.ext E_r
  have G3 := F3.ext E_r
  have G4 := F4.ext E_r
  have G5 := F5.ext E_r
  have B1 : Fld Z h1 r "com/example/tejuelo/tejuelo/core/Finding" "code" "Ljava/lang/String;" .null := D_r (Or.inr (hw _ (List.mem_of_getElem? (i := 71) rfl))) (ty := (.object "java/lang/String")) (by decide)
  have B2 : Fld Z h1 r "com/example/tejuelo/tejuelo/core/Finding" "field" "Ljava/lang/String;" .null := D_r (Or.inr (hw _ (List.mem_of_getElem? (i := 73) rfl))) (ty := (.object "java/lang/String")) (by decide)
  have B3 : Fld Z h1 r "com/example/tejuelo/tejuelo/core/Finding" "message" "Ljava/lang/String;" .null := D_r (Or.inr (hw _ (List.mem_of_getElem? (i := 75) rfl))) (ty := (.object "java/lang/String")) (by decide)
  have B4 : Fld Z h1 r "com/example/tejuelo/tejuelo/core/Finding" "clause" "Ljava/lang/String;" .null := D_r (Or.inr (hw _ (List.mem_of_getElem? (i := 77) rfl))) (ty := (.object "java/lang/String")) (by decide)
  have B5 : Fld Z h1 r "com/example/tejuelo/tejuelo/core/Finding" "verdict" "Lcom/example/tejuelo/tejuelo/core/Verdict;" .null := D_r (Or.inr (hw _ (List.mem_of_getElem? (i := 79) rfl))) (ty := (.object "com/example/tejuelo/tejuelo/core/Verdict")) (by decide)
  have B6 : Fld Z h1 r "com/example/tejuelo/tejuelo/core/Finding" "value" "Ljava/util/Optional;" .null := D_r (Or.inr (hw _ (List.mem_of_getElem? (i := 81) rfl))) (ty := (.object "java/util/Optional")) (by decide)
  refine Go.plain (g' := (mkF m 4 #[.val (.ref a), .val (.ref sv)] [(.ref r), (.ref r)])) (fun T_ L_ X_ t_ q_ => XS.dup X_.here C.hx rfl (C.d d_about_3) rfl rfl q_) ?_
  refine Go.plain (g' := (mkF m 5 #[.val (.ref a), .val (.ref sv)] [(.ref a), (.ref r), (.ref r)])) (fun T_ L_ X_ t_ q_ => XS.aloadN X_.here C.hx rfl (C.d d_about_4) rfl rfl q_) ?_
  refine Go.getF C (host := "") (Or.inl (hw _ (List.mem_of_getElem? (i := 70) rfl))) Via.refl G1 d_about_5 (pc' := 8) rfl ?_
  refine Go.plain (g' := (mkF m 9 #[.val (.ref a), .val (.ref sv)] [(.ref a), (.ref b1), (.ref r), (.ref r)])) (fun T_ L_ X_ t_ q_ => XS.aloadN X_.here C.hx rfl (C.d d_about_8) rfl rfl q_) ?_
  refine Go.getF C (host := "") (Or.inl (hw _ (List.mem_of_getElem? (i := 72) rfl))) Via.refl G2 d_about_9 (pc' := 12) rfl ?_
  refine Go.plain (g' := (mkF m 13 #[.val (.ref a), .val (.ref sv)] [(.ref a), (.ref b2), (.ref b1), (.ref r), (.ref r)])) (fun T_ L_ X_ t_ q_ => XS.aloadN X_.here C.hx rfl (C.d d_about_12) rfl rfl q_) ?_
  refine Go.getF C (host := "") (Or.inl (hw _ (List.mem_of_getElem? (i := 74) rfl))) Via.refl G3 d_about_13 (pc' := 16) rfl ?_
  refine Go.plain (g' := (mkF m 17 #[.val (.ref a), .val (.ref sv)] [(.ref a), (.ref b3), (.ref b2), (.ref b1), (.ref r), (.ref r)])) (fun T_ L_ X_ t_ q_ => XS.aloadN X_.here C.hx rfl (C.d d_about_16) rfl rfl q_) ?_
  refine Go.getF C (host := "") (Or.inl (hw _ (List.mem_of_getElem? (i := 76) rfl))) Via.refl G4 d_about_17 (pc' := 20) rfl ?_
  refine Go.plain (g' := (mkF m 21 #[.val (.ref a), .val (.ref sv)] [(.ref a), (.ref b4), (.ref b3), (.ref b2), (.ref b1), (.ref r), (.ref r)])) (fun T_ L_ X_ t_ q_ => XS.aloadN X_.here C.hx rfl (C.d d_about_20) rfl rfl q_) ?_
  refine Go.getF C (host := "") (Or.inl (hw _ (List.mem_of_getElem? (i := 78) rfl))) Via.refl G5 d_about_21 (pc' := 24) rfl ?_
  refine Go.plain (g' := (mkF m 25 #[.val (.ref a), .val (.ref sv)] [(.ref sv), (.ref b5), (.ref b4), (.ref b3), (.ref b2), (.ref b1), (.ref r), (.ref r)])) (fun T_ L_ X_ t_ q_ => XS.aloadN X_.here C.hx rfl (C.d d_about_24) rfl rfl q_) ?_
  refine Go.static C (P_opof l Z a0 hw sv h1) (hw _ (List.mem_of_getElem? (i := 88) rfl)) (hw _ (List.mem_of_getElem? (i := 89) rfl)) (hw _ (List.mem_of_getElem? (i := 55) rfl)) (hw _ (List.mem_of_getElem? (i := 90) rfl)) (by decide) pd_6 (argsL := [(.ref sv)]) (rest := [(.ref b5), (.ref b4), (.ref b3), (.ref b2), (.ref b1), (.ref r), (.ref r)]) rfl rfl d_about_25 (pc' := 28) rfl rfl rfl (W := 7) (Nat.le_of_eq rfl) (by decide) (by decide) (k' := 2) (n' := 7) rfl rfl (by decide) (by decide) ?_
  rintro _ h5 ⟨t, rfl, z_t, X5, EO, FO⟩
  show Go p l e ({ frames := 3, cells := 2, slots := 7, locals := 45 } : Room) s m #[(.ref a), (.ref sv)] below meth c Z (fun v h => ∃ r t, v = some (.ref r) ∧ Ext h0 h ∧ Exa Z h r "com/example/tejuelo/tejuelo/core/Finding" ∧ Fld Z h r "com/example/tejuelo/tejuelo/core/Finding" "code" "Ljava/lang/String;" (.ref b1) ∧ Fld Z h r "com/example/tejuelo/tejuelo/core/Finding" "field" "Ljava/lang/String;" (.ref b2) ∧ Fld Z h r "com/example/tejuelo/tejuelo/core/Finding" "message" "Ljava/lang/String;" (.ref b3) ∧ Fld Z h r "com/example/tejuelo/tejuelo/core/Finding" "clause" "Ljava/lang/String;" (.ref b4) ∧ Fld Z h r "com/example/tejuelo/tejuelo/core/Finding" "verdict" "Lcom/example/tejuelo/tejuelo/core/Verdict;" (.ref b5) ∧ Fld Z h r "com/example/tejuelo/tejuelo/core/Finding" "value" "Ljava/util/Optional;" (.ref t) ∧ Exa Z h t "java/util/Optional" ∧ Fld Z h t "java/util/Optional" "value" "Ljava/lang/Object;" (.ref sv)) h5 2 7 (mkF m 28 #[.val (.ref a), .val (.ref sv)] [(.ref t), (.ref b5), (.ref b4), (.ref b3), (.ref b2), (.ref b1), (.ref r), (.ref r)])
  have ltt := EO.lt
  refine Go.special C (a := r) (P_fin l Z a0 hw r b1 b2 b3 b4 b5 t h5 (A_r.ext X5) (B1.ext X5) (B2.ext X5) (B3.ext X5) (B4.ext X5) (B5.ext X5) (B6.ext X5) z_r) rfl (hw _ (List.mem_of_getElem? (i := 104) rfl)) (hw _ (List.mem_of_getElem? (i := 62) rfl)) (hw _ (List.mem_of_getElem? (i := 60) rfl)) (hw _ (List.mem_of_getElem? (i := 63) rfl)) (by decide) pd_7 (argsL := [(.ref b1), (.ref b2), (.ref b3), (.ref b4), (.ref b5), (.ref t)]) (rest := [(.ref r)]) rfl rfl d_about_28 (pc' := 31) rfl rfl rfl (W := 1) (Nat.le_of_eq rfl) (by decide) (by decide) (k' := 2) (n' := 7) rfl rfl (by decide) (by decide) ?_
  rintro _ h6 ⟨rfl, K6, E6, R1, R2, R3, R4, R5, R6⟩
  show Go p l e ({ frames := 3, cells := 2, slots := 7, locals := 45 } : Room) s m #[(.ref a), (.ref sv)] below meth c Z (fun v h => ∃ r t, v = some (.ref r) ∧ Ext h0 h ∧ Exa Z h r "com/example/tejuelo/tejuelo/core/Finding" ∧ Fld Z h r "com/example/tejuelo/tejuelo/core/Finding" "code" "Ljava/lang/String;" (.ref b1) ∧ Fld Z h r "com/example/tejuelo/tejuelo/core/Finding" "field" "Ljava/lang/String;" (.ref b2) ∧ Fld Z h r "com/example/tejuelo/tejuelo/core/Finding" "message" "Ljava/lang/String;" (.ref b3) ∧ Fld Z h r "com/example/tejuelo/tejuelo/core/Finding" "clause" "Ljava/lang/String;" (.ref b4) ∧ Fld Z h r "com/example/tejuelo/tejuelo/core/Finding" "verdict" "Lcom/example/tejuelo/tejuelo/core/Verdict;" (.ref b5) ∧ Fld Z h r "com/example/tejuelo/tejuelo/core/Finding" "value" "Ljava/util/Optional;" (.ref t) ∧ Exa Z h t "java/util/Optional" ∧ Fld Z h t "java/util/Optional" "value" "Ljava/lang/Object;" (.ref sv)) h6 2 7 (mkF m 31 #[.val (.ref a), .val (.ref sv)] [(.ref r)])
  have n1 : t ≠ r := ne_exa EO (A_r.ext X5) (by decide)
  exact Go.retA C rfl rfl rfl d_about_31 (by decide) (by decide) ⟨r, t, rfl, ext_keep1 (ext_trans E_r X5) K6 (Nat.le_of_eq q_r.symm), E6, R1, R2, R3, R4, R5, R6, EO.keep K6, FO.keep K6 (ninS n1 nin0)⟩
theorem pn_law : plainName "com/example/tejuelo/tejuelo/core/FindingAboutPinLaw" = true := by first | (simp [plainName, overriddenIn]; done) | decide +kernel
theorem ef_law (m : MethodId) (x0 : Int64) (x1 : Int64) (x2 : Int32) (x3 : Int32) (x4 : Int32)  : entryFrame m #[(.long x0), (.long x1), (.int x2), (.int x3), (.int x4)] maxLocals = mkF m 0 #[.val (.long x0), .second, .val (.long x1), .second, .val (.int x2), .val (.int x3), .val (.int x4), .unset, .unset, .unset, .unset, .unset, .unset, .unset, .unset, .unset, .unset, .unset, .unset, .unset] [] := by first | (simp [entryFrame, mkF, argsToLocals, Value.category, maxLocals]; done) | rfl
set_option maxRecDepth 65536 in
set_option maxHeartbeats 40000000 in
theorem P_law (l : Launch) (Z : State) (a0 : Array Value) (hw : ∀ d ∈ tables_1, d.before a0 Z = true) (p0 p1 : Int64) (p2 p3 p4 zc : Int32) (em e0 e1 e2 e3 e4 : Addr) (h0 : Heap) (S0 : Sta Z Z.heap "java/lang/String" "COMPACT_STRINGS" "Z" (.int zc)) (hz : ¬ zc = 0) (SE : Sta Z Z.heap "java/util/Optional" "EMPTY" "Ljava/util/Optional;" (.ref em)) (SV0 : Sta Z Z.heap "com/example/tejuelo/tejuelo/core/Verdict" "REJECTED" "Lcom/example/tejuelo/tejuelo/core/Verdict;" (.ref e0)) (AV0 : Exa Z Z.heap e0 "com/example/tejuelo/tejuelo/core/Verdict") (SV1 : Sta Z Z.heap "com/example/tejuelo/tejuelo/core/Verdict" "NOT_HARVESTED" "Lcom/example/tejuelo/tejuelo/core/Verdict;" (.ref e1)) (AV1 : Exa Z Z.heap e1 "com/example/tejuelo/tejuelo/core/Verdict") (SV2 : Sta Z Z.heap "com/example/tejuelo/tejuelo/core/Verdict" "INCOMPLETE" "Lcom/example/tejuelo/tejuelo/core/Verdict;" (.ref e2)) (AV2 : Exa Z Z.heap e2 "com/example/tejuelo/tejuelo/core/Verdict") (SV3 : Sta Z Z.heap "com/example/tejuelo/tejuelo/core/Verdict" "ACCEPTED" "Lcom/example/tejuelo/tejuelo/core/Verdict;" (.ref e3)) (AV3 : Exa Z Z.heap e3 "com/example/tejuelo/tejuelo/core/Verdict") (SV4 : Sta Z Z.heap "com/example/tejuelo/tejuelo/core/Verdict" "DELETED" "Lcom/example/tejuelo/tejuelo/core/Verdict;" (.ref e4)) (AV4 : Exa Z Z.heap e4 "com/example/tejuelo/tejuelo/core/Verdict") :
    Pays l Z x code maxLocals ret room_1 #[(.long p0), (.long p1), (.int p2), (.int p3), (.int p4)] h0 (fun v h => v = some (.int (1 : Int32))) := by
  refine pays_of_go (plainFor_of_name pn_law) (fun m => ef_law m p0 p1 p2 p3 p4) ?_
  intro p e s m below meth c C0
  have C : Cx p s m meth c code 20 (some .boolean) "law" "com/example/tejuelo/tejuelo/core/FindingAboutPinLaw" Z := C0
  show Go p l e room_1 s m #[(.long p0), (.long p1), (.int p2), (.int p3), (.int p4)] below meth c Z (fun v h => v = some (.int (1 : Int32))) h0 0 0 (mkF m 0 #[.val (.long p0), .second, .val (.long p1), .second, .val (.int p2), .val (.int p3), .val (.int p4), .unset, .unset, .unset, .unset, .unset, .unset, .unset, .unset, .unset, .unset, .unset, .unset, .unset] [])
  refine Go.plain (g' := (mkF m 1 #[.val (.long p0), .second, .val (.long p1), .second, .val (.int p2), .val (.int p3), .val (.int p4), .unset, .unset, .unset, .unset, .unset, .unset, .unset, .unset, .unset, .unset, .unset, .unset, .unset] [(.long p0)])) (fun T_ L_ X_ t_ q_ => XS.lloadN X_.here C.hx rfl (C.d at_0) rfl q_) ?_
  refine Go.plain (g' := (mkF m 2 #[.val (.long p0), .second, .val (.long p1), .second, .val (.int p2), .val (.int p3), .val (.int p4), .unset, .unset, .unset, .unset, .unset, .unset, .unset, .unset, .unset, .unset, .unset, .unset, .unset] [(.int (0 : Int32)), (.long p0)])) (fun T_ L_ X_ t_ q_ => XS.iconst X_.here C.hx rfl (C.d at_1) q_) ?_
  refine Go.static C (P_ch l Z a0 hw p0 (0 : Int32) h0) (hw _ (List.mem_of_getElem? (i := 0) rfl)) (hw _ (List.mem_of_getElem? (i := 1) rfl)) (hw _ (List.mem_of_getElem? (i := 2) rfl)) (hw _ (List.mem_of_getElem? (i := 3) rfl)) (by decide) pd_8 (argsL := [(.long p0), (.int (0 : Int32))]) (rest := []) rfl rfl at_2 (pc' := 5) rfl rfl rfl (W := 0) (Nat.le_of_eq rfl) (by decide) (by decide) (k' := 0) (n' := 0) rfl rfl (by decide) (by decide) ?_
  rintro _ _ ⟨rfl, rfl⟩
  show Go p l e room_1 s m #[(.long p0), (.long p1), (.int p2), (.int p3), (.int p4)] below meth c Z (fun v h => v = some (.int (1 : Int32))) h0 0 0 (mkF m 5 #[.val (.long p0), .second, .val (.long p1), .second, .val (.int p2), .val (.int p3), .val (.int p4), .unset, .unset, .unset, .unset, .unset, .unset, .unset, .unset, .unset, .unset, .unset, .unset, .unset] [(.int (chv p0 (0 : Int32)))])
  have r0 := chv_rng p0 (0 : Int32)
  generalize chv p0 (0 : Int32) = c0 at r0 ⊢
  refine Go.plain (g' := (mkF m 6 #[.val (.long p0), .second, .val (.long p1), .second, .val (.int p2), .val (.int p3), .val (.int p4), .unset, .unset, .unset, .unset, .unset, .unset, .unset, .unset, .unset, .unset, .unset, .unset, .unset] [(.long p0), (.int c0)])) (fun T_ L_ X_ t_ q_ => XS.lloadN X_.here C.hx rfl (C.d at_5) rfl q_) ?_
  refine Go.plain (g' := (mkF m 8 #[.val (.long p0), .second, .val (.long p1), .second, .val (.int p2), .val (.int p3), .val (.int p4), .unset, .unset, .unset, .unset, .unset, .unset, .unset, .unset, .unset, .unset, .unset, .unset, .unset] [(.int (8 : Int32)), (.long p0), (.int c0)])) (fun T_ L_ X_ t_ q_ => XS.bipush X_.here C.hx rfl (C.d at_6) q_) ?_
  refine Go.static C (P_ch l Z a0 hw p0 (8 : Int32) h0) (hw _ (List.mem_of_getElem? (i := 0) rfl)) (hw _ (List.mem_of_getElem? (i := 1) rfl)) (hw _ (List.mem_of_getElem? (i := 2) rfl)) (hw _ (List.mem_of_getElem? (i := 3) rfl)) (by decide) pd_8 (argsL := [(.long p0), (.int (8 : Int32))]) (rest := [(.int c0)]) rfl rfl at_8 (pc' := 11) rfl rfl rfl (W := 1) (Nat.le_of_eq rfl) (by decide) (by decide) (k' := 0) (n' := 0) rfl rfl (by decide) (by decide) ?_
  rintro _ _ ⟨rfl, rfl⟩
  show Go p l e room_1 s m #[(.long p0), (.long p1), (.int p2), (.int p3), (.int p4)] below meth c Z (fun v h => v = some (.int (1 : Int32))) h0 0 0 (mkF m 11 #[.val (.long p0), .second, .val (.long p1), .second, .val (.int p2), .val (.int p3), .val (.int p4), .unset, .unset, .unset, .unset, .unset, .unset, .unset, .unset, .unset, .unset, .unset, .unset, .unset] [(.int (chv p0 (8 : Int32))), (.int c0)])
  have r1 := chv_rng p0 (8 : Int32)
  generalize chv p0 (8 : Int32) = c1 at r1 ⊢
  refine Go.static C (P_two l Z a0 hw c0 c1 zc h0 r0 r1 S0 hz) (hw _ (List.mem_of_getElem? (i := 5) rfl)) (hw _ (List.mem_of_getElem? (i := 6) rfl)) (hw _ (List.mem_of_getElem? (i := 2) rfl)) (hw _ (List.mem_of_getElem? (i := 7) rfl)) (by decide) pd_9 (argsL := [(.int c0), (.int c1)]) (rest := []) rfl rfl at_11 (pc' := 14) rfl rfl rfl (W := 0) (Nat.le_of_eq rfl) (by decide) (by decide) (k' := 3) (n' := 8) rfl rfl (by decide) (by decide) ?_
  rintro _ h1 ⟨s1, rfl, z_s1, X_s1, T_s1⟩
  show Go p l e room_1 s m #[(.long p0), (.long p1), (.int p2), (.int p3), (.int p4)] below meth c Z (fun v h => v = some (.int (1 : Int32))) h1 3 8 (mkF m 14 #[.val (.long p0), .second, .val (.long p1), .second, .val (.int p2), .val (.int p3), .val (.int p4), .unset, .unset, .unset, .unset, .unset, .unset, .unset, .unset, .unset, .unset, .unset, .unset, .unset] [(.ref s1)])
  have E_s1 := T_s1.exa
  refine Go.plain (g' := (mkF m 16 #[.val (.long p0), .second, .val (.long p1), .second, .val (.int p2), .val (.int p3), .val (.int p4), .val (.ref s1), .unset, .unset, .unset, .unset, .unset, .unset, .unset, .unset, .unset, .unset, .unset, .unset] [])) (fun T_ L_ X_ t_ q_ => XS.astore X_.here C.hx rfl (C.d at_14) rfl rfl (l' := #[.val (.long p0), .second, .val (.long p1), .second, .val (.int p2), .val (.int p3), .val (.int p4), .val (.ref s1), .unset, .unset, .unset, .unset, .unset, .unset, .unset, .unset, .unset, .unset, .unset, .unset]) rfl q_) ?_
  refine Go.plain (g' := (mkF m 17 #[.val (.long p0), .second, .val (.long p1), .second, .val (.int p2), .val (.int p3), .val (.int p4), .val (.ref s1), .unset, .unset, .unset, .unset, .unset, .unset, .unset, .unset, .unset, .unset, .unset, .unset] [(.long p0)])) (fun T_ L_ X_ t_ q_ => XS.lloadN X_.here C.hx rfl (C.d at_16) rfl q_) ?_
  refine Go.plain (g' := (mkF m 19 #[.val (.long p0), .second, .val (.long p1), .second, .val (.int p2), .val (.int p3), .val (.int p4), .val (.ref s1), .unset, .unset, .unset, .unset, .unset, .unset, .unset, .unset, .unset, .unset, .unset, .unset] [(.int (16 : Int32)), (.long p0)])) (fun T_ L_ X_ t_ q_ => XS.bipush X_.here C.hx rfl (C.d at_17) q_) ?_
  refine Go.static C (P_ch l Z a0 hw p0 (16 : Int32) h1) (hw _ (List.mem_of_getElem? (i := 0) rfl)) (hw _ (List.mem_of_getElem? (i := 1) rfl)) (hw _ (List.mem_of_getElem? (i := 2) rfl)) (hw _ (List.mem_of_getElem? (i := 3) rfl)) (by decide) pd_8 (argsL := [(.long p0), (.int (16 : Int32))]) (rest := []) rfl rfl at_19 (pc' := 22) rfl rfl rfl (W := 0) (Nat.le_of_eq rfl) (by decide) (by decide) (k' := 3) (n' := 8) rfl rfl (by decide) (by decide) ?_
  rintro _ _ ⟨rfl, rfl⟩
  show Go p l e room_1 s m #[(.long p0), (.long p1), (.int p2), (.int p3), (.int p4)] below meth c Z (fun v h => v = some (.int (1 : Int32))) h1 3 8 (mkF m 22 #[.val (.long p0), .second, .val (.long p1), .second, .val (.int p2), .val (.int p3), .val (.int p4), .val (.ref s1), .unset, .unset, .unset, .unset, .unset, .unset, .unset, .unset, .unset, .unset, .unset, .unset] [(.int (chv p0 (16 : Int32)))])
  have r2 := chv_rng p0 (16 : Int32)
  generalize chv p0 (16 : Int32) = c2 at r2 ⊢
  refine Go.plain (g' := (mkF m 23 #[.val (.long p0), .second, .val (.long p1), .second, .val (.int p2), .val (.int p3), .val (.int p4), .val (.ref s1), .unset, .unset, .unset, .unset, .unset, .unset, .unset, .unset, .unset, .unset, .unset, .unset] [(.long p0), (.int c2)])) (fun T_ L_ X_ t_ q_ => XS.lloadN X_.here C.hx rfl (C.d at_22) rfl q_) ?_
  refine Go.plain (g' := (mkF m 25 #[.val (.long p0), .second, .val (.long p1), .second, .val (.int p2), .val (.int p3), .val (.int p4), .val (.ref s1), .unset, .unset, .unset, .unset, .unset, .unset, .unset, .unset, .unset, .unset, .unset, .unset] [(.int (24 : Int32)), (.long p0), (.int c2)])) (fun T_ L_ X_ t_ q_ => XS.bipush X_.here C.hx rfl (C.d at_23) q_) ?_
  refine Go.static C (P_ch l Z a0 hw p0 (24 : Int32) h1) (hw _ (List.mem_of_getElem? (i := 0) rfl)) (hw _ (List.mem_of_getElem? (i := 1) rfl)) (hw _ (List.mem_of_getElem? (i := 2) rfl)) (hw _ (List.mem_of_getElem? (i := 3) rfl)) (by decide) pd_8 (argsL := [(.long p0), (.int (24 : Int32))]) (rest := [(.int c2)]) rfl rfl at_25 (pc' := 28) rfl rfl rfl (W := 1) (Nat.le_of_eq rfl) (by decide) (by decide) (k' := 3) (n' := 8) rfl rfl (by decide) (by decide) ?_
  rintro _ _ ⟨rfl, rfl⟩
  show Go p l e room_1 s m #[(.long p0), (.long p1), (.int p2), (.int p3), (.int p4)] below meth c Z (fun v h => v = some (.int (1 : Int32))) h1 3 8 (mkF m 28 #[.val (.long p0), .second, .val (.long p1), .second, .val (.int p2), .val (.int p3), .val (.int p4), .val (.ref s1), .unset, .unset, .unset, .unset, .unset, .unset, .unset, .unset, .unset, .unset, .unset, .unset] [(.int (chv p0 (24 : Int32))), (.int c2)])
  have r3 := chv_rng p0 (24 : Int32)
  generalize chv p0 (24 : Int32) = c3 at r3 ⊢
  refine Go.static C (P_two l Z a0 hw c2 c3 zc h1 r2 r3 S0 hz) (hw _ (List.mem_of_getElem? (i := 5) rfl)) (hw _ (List.mem_of_getElem? (i := 6) rfl)) (hw _ (List.mem_of_getElem? (i := 2) rfl)) (hw _ (List.mem_of_getElem? (i := 7) rfl)) (by decide) pd_9 (argsL := [(.int c2), (.int c3)]) (rest := []) rfl rfl at_28 (pc' := 31) rfl rfl rfl (W := 0) (Nat.le_of_eq rfl) (by decide) (by decide) (k' := 6) (n' := 16) rfl rfl (by decide) (by decide) ?_
  rintro _ h2 ⟨s2, rfl, z_s2, X_s2, T_s2⟩
  show Go p l e room_1 s m #[(.long p0), (.long p1), (.int p2), (.int p3), (.int p4)] below meth c Z (fun v h => v = some (.int (1 : Int32))) h2 6 16 (mkF m 31 #[.val (.long p0), .second, .val (.long p1), .second, .val (.int p2), .val (.int p3), .val (.int p4), .val (.ref s1), .unset, .unset, .unset, .unset, .unset, .unset, .unset, .unset, .unset, .unset, .unset, .unset] [(.ref s2)])
  have E_s1 := E_s1.ext X_s2
  have E_s2 := T_s2.exa
  refine Go.plain (g' := (mkF m 33 #[.val (.long p0), .second, .val (.long p1), .second, .val (.int p2), .val (.int p3), .val (.int p4), .val (.ref s1), .val (.ref s2), .unset, .unset, .unset, .unset, .unset, .unset, .unset, .unset, .unset, .unset, .unset] [])) (fun T_ L_ X_ t_ q_ => XS.astore X_.here C.hx rfl (C.d at_31) rfl rfl (l' := #[.val (.long p0), .second, .val (.long p1), .second, .val (.int p2), .val (.int p3), .val (.int p4), .val (.ref s1), .val (.ref s2), .unset, .unset, .unset, .unset, .unset, .unset, .unset, .unset, .unset, .unset, .unset]) rfl q_) ?_
  refine Go.plain (g' := (mkF m 34 #[.val (.long p0), .second, .val (.long p1), .second, .val (.int p2), .val (.int p3), .val (.int p4), .val (.ref s1), .val (.ref s2), .unset, .unset, .unset, .unset, .unset, .unset, .unset, .unset, .unset, .unset, .unset] [(.long p0)])) (fun T_ L_ X_ t_ q_ => XS.lloadN X_.here C.hx rfl (C.d at_33) rfl q_) ?_
  refine Go.plain (g' := (mkF m 36 #[.val (.long p0), .second, .val (.long p1), .second, .val (.int p2), .val (.int p3), .val (.int p4), .val (.ref s1), .val (.ref s2), .unset, .unset, .unset, .unset, .unset, .unset, .unset, .unset, .unset, .unset, .unset] [(.int (32 : Int32)), (.long p0)])) (fun T_ L_ X_ t_ q_ => XS.bipush X_.here C.hx rfl (C.d at_34) q_) ?_
  refine Go.static C (P_ch l Z a0 hw p0 (32 : Int32) h2) (hw _ (List.mem_of_getElem? (i := 0) rfl)) (hw _ (List.mem_of_getElem? (i := 1) rfl)) (hw _ (List.mem_of_getElem? (i := 2) rfl)) (hw _ (List.mem_of_getElem? (i := 3) rfl)) (by decide) pd_8 (argsL := [(.long p0), (.int (32 : Int32))]) (rest := []) rfl rfl at_36 (pc' := 39) rfl rfl rfl (W := 0) (Nat.le_of_eq rfl) (by decide) (by decide) (k' := 6) (n' := 16) rfl rfl (by decide) (by decide) ?_
  rintro _ _ ⟨rfl, rfl⟩
  show Go p l e room_1 s m #[(.long p0), (.long p1), (.int p2), (.int p3), (.int p4)] below meth c Z (fun v h => v = some (.int (1 : Int32))) h2 6 16 (mkF m 39 #[.val (.long p0), .second, .val (.long p1), .second, .val (.int p2), .val (.int p3), .val (.int p4), .val (.ref s1), .val (.ref s2), .unset, .unset, .unset, .unset, .unset, .unset, .unset, .unset, .unset, .unset, .unset] [(.int (chv p0 (32 : Int32)))])
  have r4 := chv_rng p0 (32 : Int32)
  generalize chv p0 (32 : Int32) = c4 at r4 ⊢
  refine Go.plain (g' := (mkF m 40 #[.val (.long p0), .second, .val (.long p1), .second, .val (.int p2), .val (.int p3), .val (.int p4), .val (.ref s1), .val (.ref s2), .unset, .unset, .unset, .unset, .unset, .unset, .unset, .unset, .unset, .unset, .unset] [(.long p0), (.int c4)])) (fun T_ L_ X_ t_ q_ => XS.lloadN X_.here C.hx rfl (C.d at_39) rfl q_) ?_
  refine Go.plain (g' := (mkF m 42 #[.val (.long p0), .second, .val (.long p1), .second, .val (.int p2), .val (.int p3), .val (.int p4), .val (.ref s1), .val (.ref s2), .unset, .unset, .unset, .unset, .unset, .unset, .unset, .unset, .unset, .unset, .unset] [(.int (40 : Int32)), (.long p0), (.int c4)])) (fun T_ L_ X_ t_ q_ => XS.bipush X_.here C.hx rfl (C.d at_40) q_) ?_
  refine Go.static C (P_ch l Z a0 hw p0 (40 : Int32) h2) (hw _ (List.mem_of_getElem? (i := 0) rfl)) (hw _ (List.mem_of_getElem? (i := 1) rfl)) (hw _ (List.mem_of_getElem? (i := 2) rfl)) (hw _ (List.mem_of_getElem? (i := 3) rfl)) (by decide) pd_8 (argsL := [(.long p0), (.int (40 : Int32))]) (rest := [(.int c4)]) rfl rfl at_42 (pc' := 45) rfl rfl rfl (W := 1) (Nat.le_of_eq rfl) (by decide) (by decide) (k' := 6) (n' := 16) rfl rfl (by decide) (by decide) ?_
  rintro _ _ ⟨rfl, rfl⟩
  show Go p l e room_1 s m #[(.long p0), (.long p1), (.int p2), (.int p3), (.int p4)] below meth c Z (fun v h => v = some (.int (1 : Int32))) h2 6 16 (mkF m 45 #[.val (.long p0), .second, .val (.long p1), .second, .val (.int p2), .val (.int p3), .val (.int p4), .val (.ref s1), .val (.ref s2), .unset, .unset, .unset, .unset, .unset, .unset, .unset, .unset, .unset, .unset, .unset] [(.int (chv p0 (40 : Int32))), (.int c4)])
  have r5 := chv_rng p0 (40 : Int32)
  generalize chv p0 (40 : Int32) = c5 at r5 ⊢
  refine Go.static C (P_two l Z a0 hw c4 c5 zc h2 r4 r5 S0 hz) (hw _ (List.mem_of_getElem? (i := 5) rfl)) (hw _ (List.mem_of_getElem? (i := 6) rfl)) (hw _ (List.mem_of_getElem? (i := 2) rfl)) (hw _ (List.mem_of_getElem? (i := 7) rfl)) (by decide) pd_9 (argsL := [(.int c4), (.int c5)]) (rest := []) rfl rfl at_45 (pc' := 48) rfl rfl rfl (W := 0) (Nat.le_of_eq rfl) (by decide) (by decide) (k' := 9) (n' := 24) rfl rfl (by decide) (by decide) ?_
  rintro _ h3 ⟨s3, rfl, z_s3, X_s3, T_s3⟩
  show Go p l e room_1 s m #[(.long p0), (.long p1), (.int p2), (.int p3), (.int p4)] below meth c Z (fun v h => v = some (.int (1 : Int32))) h3 9 24 (mkF m 48 #[.val (.long p0), .second, .val (.long p1), .second, .val (.int p2), .val (.int p3), .val (.int p4), .val (.ref s1), .val (.ref s2), .unset, .unset, .unset, .unset, .unset, .unset, .unset, .unset, .unset, .unset, .unset] [(.ref s3)])
  have E_s1 := E_s1.ext X_s3
  have E_s2 := E_s2.ext X_s3
  have E_s3 := T_s3.exa
  refine Go.plain (g' := (mkF m 50 #[.val (.long p0), .second, .val (.long p1), .second, .val (.int p2), .val (.int p3), .val (.int p4), .val (.ref s1), .val (.ref s2), .val (.ref s3), .unset, .unset, .unset, .unset, .unset, .unset, .unset, .unset, .unset, .unset] [])) (fun T_ L_ X_ t_ q_ => XS.astore X_.here C.hx rfl (C.d at_48) rfl rfl (l' := #[.val (.long p0), .second, .val (.long p1), .second, .val (.int p2), .val (.int p3), .val (.int p4), .val (.ref s1), .val (.ref s2), .val (.ref s3), .unset, .unset, .unset, .unset, .unset, .unset, .unset, .unset, .unset, .unset]) rfl q_) ?_
  refine Go.plain (g' := (mkF m 51 #[.val (.long p0), .second, .val (.long p1), .second, .val (.int p2), .val (.int p3), .val (.int p4), .val (.ref s1), .val (.ref s2), .val (.ref s3), .unset, .unset, .unset, .unset, .unset, .unset, .unset, .unset, .unset, .unset] [(.long p1)])) (fun T_ L_ X_ t_ q_ => XS.lloadN X_.here C.hx rfl (C.d at_50) rfl q_) ?_
  refine Go.plain (g' := (mkF m 52 #[.val (.long p0), .second, .val (.long p1), .second, .val (.int p2), .val (.int p3), .val (.int p4), .val (.ref s1), .val (.ref s2), .val (.ref s3), .unset, .unset, .unset, .unset, .unset, .unset, .unset, .unset, .unset, .unset] [(.int (0 : Int32)), (.long p1)])) (fun T_ L_ X_ t_ q_ => XS.iconst X_.here C.hx rfl (C.d at_51) q_) ?_
  refine Go.static C (P_ch l Z a0 hw p1 (0 : Int32) h3) (hw _ (List.mem_of_getElem? (i := 0) rfl)) (hw _ (List.mem_of_getElem? (i := 1) rfl)) (hw _ (List.mem_of_getElem? (i := 2) rfl)) (hw _ (List.mem_of_getElem? (i := 3) rfl)) (by decide) pd_8 (argsL := [(.long p1), (.int (0 : Int32))]) (rest := []) rfl rfl at_52 (pc' := 55) rfl rfl rfl (W := 0) (Nat.le_of_eq rfl) (by decide) (by decide) (k' := 9) (n' := 24) rfl rfl (by decide) (by decide) ?_
  rintro _ _ ⟨rfl, rfl⟩
  show Go p l e room_1 s m #[(.long p0), (.long p1), (.int p2), (.int p3), (.int p4)] below meth c Z (fun v h => v = some (.int (1 : Int32))) h3 9 24 (mkF m 55 #[.val (.long p0), .second, .val (.long p1), .second, .val (.int p2), .val (.int p3), .val (.int p4), .val (.ref s1), .val (.ref s2), .val (.ref s3), .unset, .unset, .unset, .unset, .unset, .unset, .unset, .unset, .unset, .unset] [(.int (chv p1 (0 : Int32)))])
  have r6 := chv_rng p1 (0 : Int32)
  generalize chv p1 (0 : Int32) = c6 at r6 ⊢
  refine Go.plain (g' := (mkF m 56 #[.val (.long p0), .second, .val (.long p1), .second, .val (.int p2), .val (.int p3), .val (.int p4), .val (.ref s1), .val (.ref s2), .val (.ref s3), .unset, .unset, .unset, .unset, .unset, .unset, .unset, .unset, .unset, .unset] [(.long p1), (.int c6)])) (fun T_ L_ X_ t_ q_ => XS.lloadN X_.here C.hx rfl (C.d at_55) rfl q_) ?_
  refine Go.plain (g' := (mkF m 58 #[.val (.long p0), .second, .val (.long p1), .second, .val (.int p2), .val (.int p3), .val (.int p4), .val (.ref s1), .val (.ref s2), .val (.ref s3), .unset, .unset, .unset, .unset, .unset, .unset, .unset, .unset, .unset, .unset] [(.int (8 : Int32)), (.long p1), (.int c6)])) (fun T_ L_ X_ t_ q_ => XS.bipush X_.here C.hx rfl (C.d at_56) q_) ?_
  refine Go.static C (P_ch l Z a0 hw p1 (8 : Int32) h3) (hw _ (List.mem_of_getElem? (i := 0) rfl)) (hw _ (List.mem_of_getElem? (i := 1) rfl)) (hw _ (List.mem_of_getElem? (i := 2) rfl)) (hw _ (List.mem_of_getElem? (i := 3) rfl)) (by decide) pd_8 (argsL := [(.long p1), (.int (8 : Int32))]) (rest := [(.int c6)]) rfl rfl at_58 (pc' := 61) rfl rfl rfl (W := 1) (Nat.le_of_eq rfl) (by decide) (by decide) (k' := 9) (n' := 24) rfl rfl (by decide) (by decide) ?_
  rintro _ _ ⟨rfl, rfl⟩
  show Go p l e room_1 s m #[(.long p0), (.long p1), (.int p2), (.int p3), (.int p4)] below meth c Z (fun v h => v = some (.int (1 : Int32))) h3 9 24 (mkF m 61 #[.val (.long p0), .second, .val (.long p1), .second, .val (.int p2), .val (.int p3), .val (.int p4), .val (.ref s1), .val (.ref s2), .val (.ref s3), .unset, .unset, .unset, .unset, .unset, .unset, .unset, .unset, .unset, .unset] [(.int (chv p1 (8 : Int32))), (.int c6)])
  have r7 := chv_rng p1 (8 : Int32)
  generalize chv p1 (8 : Int32) = c7 at r7 ⊢
  refine Go.static C (P_two l Z a0 hw c6 c7 zc h3 r6 r7 S0 hz) (hw _ (List.mem_of_getElem? (i := 5) rfl)) (hw _ (List.mem_of_getElem? (i := 6) rfl)) (hw _ (List.mem_of_getElem? (i := 2) rfl)) (hw _ (List.mem_of_getElem? (i := 7) rfl)) (by decide) pd_9 (argsL := [(.int c6), (.int c7)]) (rest := []) rfl rfl at_61 (pc' := 64) rfl rfl rfl (W := 0) (Nat.le_of_eq rfl) (by decide) (by decide) (k' := 12) (n' := 32) rfl rfl (by decide) (by decide) ?_
  rintro _ h4 ⟨s4, rfl, z_s4, X_s4, T_s4⟩
  show Go p l e room_1 s m #[(.long p0), (.long p1), (.int p2), (.int p3), (.int p4)] below meth c Z (fun v h => v = some (.int (1 : Int32))) h4 12 32 (mkF m 64 #[.val (.long p0), .second, .val (.long p1), .second, .val (.int p2), .val (.int p3), .val (.int p4), .val (.ref s1), .val (.ref s2), .val (.ref s3), .unset, .unset, .unset, .unset, .unset, .unset, .unset, .unset, .unset, .unset] [(.ref s4)])
  have E_s1 := E_s1.ext X_s4
  have E_s2 := E_s2.ext X_s4
  have E_s3 := E_s3.ext X_s4
  have E_s4 := T_s4.exa
  refine Go.plain (g' := (mkF m 66 #[.val (.long p0), .second, .val (.long p1), .second, .val (.int p2), .val (.int p3), .val (.int p4), .val (.ref s1), .val (.ref s2), .val (.ref s3), .val (.ref s4), .unset, .unset, .unset, .unset, .unset, .unset, .unset, .unset, .unset] [])) (fun T_ L_ X_ t_ q_ => XS.astore X_.here C.hx rfl (C.d at_64) rfl rfl (l' := #[.val (.long p0), .second, .val (.long p1), .second, .val (.int p2), .val (.int p3), .val (.int p4), .val (.ref s1), .val (.ref s2), .val (.ref s3), .val (.ref s4), .unset, .unset, .unset, .unset, .unset, .unset, .unset, .unset, .unset]) rfl q_) ?_
  refine Go.plain (g' := (mkF m 67 #[.val (.long p0), .second, .val (.long p1), .second, .val (.int p2), .val (.int p3), .val (.int p4), .val (.ref s1), .val (.ref s2), .val (.ref s3), .val (.ref s4), .unset, .unset, .unset, .unset, .unset, .unset, .unset, .unset, .unset] [(.int (5 : Int32))])) (fun T_ L_ X_ t_ q_ => XS.iconst X_.here C.hx rfl (C.d at_66) q_) ?_
  refine Go.newR C (hw _ (List.mem_of_getElem? (i := 38) rfl)) (hw _ (List.mem_of_getElem? (i := 39) rfl)) (by decide) (cap := 5) (by decide) (by decide) at_67 (pc' := 70) rfl (k' := 13) (n' := 37) rfl rfl (by decide) (by decide) ?_
  intro va h5 kV q_va z_va E_va O_va V_va
  have V_va : Arv Z h5 va kV (.object "com/example/tejuelo/tejuelo/core/Verdict") (5 : Int32) [.null, .null, .null, .null, .null] .null := V_va.pad (pad_rep [] .null 5)
  have E_s1 := E_s1.ext E_va
  have E_s2 := E_s2.ext E_va
  have E_s3 := E_s3.ext E_va
  have E_s4 := E_s4.ext E_va
  refine Go.plain (g' := (mkF m 71 #[.val (.long p0), .second, .val (.long p1), .second, .val (.int p2), .val (.int p3), .val (.int p4), .val (.ref s1), .val (.ref s2), .val (.ref s3), .val (.ref s4), .unset, .unset, .unset, .unset, .unset, .unset, .unset, .unset, .unset] [(.ref va), (.ref va)])) (fun T_ L_ X_ t_ q_ => XS.dup X_.here C.hx rfl (C.d at_70) rfl rfl q_) ?_
  refine Go.plain (g' := (mkF m 72 #[.val (.long p0), .second, .val (.long p1), .second, .val (.int p2), .val (.int p3), .val (.int p4), .val (.ref s1), .val (.ref s2), .val (.ref s3), .val (.ref s4), .unset, .unset, .unset, .unset, .unset, .unset, .unset, .unset, .unset] [(.int (0 : Int32)), (.ref va), (.ref va)])) (fun T_ L_ X_ t_ q_ => XS.iconst X_.here C.hx rfl (C.d at_71) q_) ?_
  refine Go.getS C (host := "") (Or.inl (hw _ (List.mem_of_getElem? (i := 40) rfl))) Via.refl SV0 at_72 (pc' := 75) rfl ?_
  refine Go.old fun hE => ?_
  have I0 : Ins Z h5 e0 "com/example/tejuelo/tejuelo/core/Verdict" true := Ins.self (AV0.ext hE)
  have sto0 : Sto Z h5 va (.ref e0) := by obtain ⟨cl, A, q, -⟩ := V_va; exact Sto.ofV A q O_va I0
  refine Go.stR C V_va rfl rfl sto0 ⟨by decide, by decide⟩ (i := 0) rfl (Nat.le_of_ble_eq_true rfl) z_va at_75 (pc' := 76) rfl ?_
  intro h6 W_h6 V_va
  have E_s1 := E_s1.wr W_h6
  have E_s2 := E_s2.wr W_h6
  have E_s3 := E_s3.wr W_h6
  have E_s4 := E_s4.wr W_h6
  refine Go.plain (g' := (mkF m 77 #[.val (.long p0), .second, .val (.long p1), .second, .val (.int p2), .val (.int p3), .val (.int p4), .val (.ref s1), .val (.ref s2), .val (.ref s3), .val (.ref s4), .unset, .unset, .unset, .unset, .unset, .unset, .unset, .unset, .unset] [(.ref va), (.ref va)])) (fun T_ L_ X_ t_ q_ => XS.dup X_.here C.hx rfl (C.d at_76) rfl rfl q_) ?_
  refine Go.plain (g' := (mkF m 78 #[.val (.long p0), .second, .val (.long p1), .second, .val (.int p2), .val (.int p3), .val (.int p4), .val (.ref s1), .val (.ref s2), .val (.ref s3), .val (.ref s4), .unset, .unset, .unset, .unset, .unset, .unset, .unset, .unset, .unset] [(.int (1 : Int32)), (.ref va), (.ref va)])) (fun T_ L_ X_ t_ q_ => XS.iconst X_.here C.hx rfl (C.d at_77) q_) ?_
  refine Go.getS C (host := "") (Or.inl (hw _ (List.mem_of_getElem? (i := 44) rfl))) Via.refl SV1 at_78 (pc' := 81) rfl ?_
  refine Go.old fun hE => ?_
  have I1 : Ins Z h6 e1 "com/example/tejuelo/tejuelo/core/Verdict" true := Ins.self (AV1.ext hE)
  have sto1 : Sto Z h6 va (.ref e1) := by obtain ⟨cl, A, q, -⟩ := V_va; exact Sto.ofV A q O_va I1
  refine Go.stR C V_va rfl rfl sto1 ⟨by decide, by decide⟩ (i := 1) rfl (Nat.le_of_ble_eq_true rfl) z_va at_81 (pc' := 82) rfl ?_
  intro h7 W_h7 V_va
  have E_s1 := E_s1.wr W_h7
  have E_s2 := E_s2.wr W_h7
  have E_s3 := E_s3.wr W_h7
  have E_s4 := E_s4.wr W_h7
  refine Go.plain (g' := (mkF m 83 #[.val (.long p0), .second, .val (.long p1), .second, .val (.int p2), .val (.int p3), .val (.int p4), .val (.ref s1), .val (.ref s2), .val (.ref s3), .val (.ref s4), .unset, .unset, .unset, .unset, .unset, .unset, .unset, .unset, .unset] [(.ref va), (.ref va)])) (fun T_ L_ X_ t_ q_ => XS.dup X_.here C.hx rfl (C.d at_82) rfl rfl q_) ?_
  refine Go.plain (g' := (mkF m 84 #[.val (.long p0), .second, .val (.long p1), .second, .val (.int p2), .val (.int p3), .val (.int p4), .val (.ref s1), .val (.ref s2), .val (.ref s3), .val (.ref s4), .unset, .unset, .unset, .unset, .unset, .unset, .unset, .unset, .unset] [(.int (2 : Int32)), (.ref va), (.ref va)])) (fun T_ L_ X_ t_ q_ => XS.iconst X_.here C.hx rfl (C.d at_83) q_) ?_
  refine Go.getS C (host := "") (Or.inl (hw _ (List.mem_of_getElem? (i := 46) rfl))) Via.refl SV2 at_84 (pc' := 87) rfl ?_
  refine Go.old fun hE => ?_
  have I2 : Ins Z h7 e2 "com/example/tejuelo/tejuelo/core/Verdict" true := Ins.self (AV2.ext hE)
  have sto2 : Sto Z h7 va (.ref e2) := by obtain ⟨cl, A, q, -⟩ := V_va; exact Sto.ofV A q O_va I2
  refine Go.stR C V_va rfl rfl sto2 ⟨by decide, by decide⟩ (i := 2) rfl (Nat.le_of_ble_eq_true rfl) z_va at_87 (pc' := 88) rfl ?_
  intro h8 W_h8 V_va
  have E_s1 := E_s1.wr W_h8
  have E_s2 := E_s2.wr W_h8
  have E_s3 := E_s3.wr W_h8
  have E_s4 := E_s4.wr W_h8
  refine Go.plain (g' := (mkF m 89 #[.val (.long p0), .second, .val (.long p1), .second, .val (.int p2), .val (.int p3), .val (.int p4), .val (.ref s1), .val (.ref s2), .val (.ref s3), .val (.ref s4), .unset, .unset, .unset, .unset, .unset, .unset, .unset, .unset, .unset] [(.ref va), (.ref va)])) (fun T_ L_ X_ t_ q_ => XS.dup X_.here C.hx rfl (C.d at_88) rfl rfl q_) ?_
  refine Go.plain (g' := (mkF m 90 #[.val (.long p0), .second, .val (.long p1), .second, .val (.int p2), .val (.int p3), .val (.int p4), .val (.ref s1), .val (.ref s2), .val (.ref s3), .val (.ref s4), .unset, .unset, .unset, .unset, .unset, .unset, .unset, .unset, .unset] [(.int (3 : Int32)), (.ref va), (.ref va)])) (fun T_ L_ X_ t_ q_ => XS.iconst X_.here C.hx rfl (C.d at_89) q_) ?_
  refine Go.getS C (host := "") (Or.inl (hw _ (List.mem_of_getElem? (i := 48) rfl))) Via.refl SV3 at_90 (pc' := 93) rfl ?_
  refine Go.old fun hE => ?_
  have I3 : Ins Z h8 e3 "com/example/tejuelo/tejuelo/core/Verdict" true := Ins.self (AV3.ext hE)
  have sto3 : Sto Z h8 va (.ref e3) := by obtain ⟨cl, A, q, -⟩ := V_va; exact Sto.ofV A q O_va I3
  refine Go.stR C V_va rfl rfl sto3 ⟨by decide, by decide⟩ (i := 3) rfl (Nat.le_of_ble_eq_true rfl) z_va at_93 (pc' := 94) rfl ?_
  intro h9 W_h9 V_va
  have E_s1 := E_s1.wr W_h9
  have E_s2 := E_s2.wr W_h9
  have E_s3 := E_s3.wr W_h9
  have E_s4 := E_s4.wr W_h9
  refine Go.plain (g' := (mkF m 95 #[.val (.long p0), .second, .val (.long p1), .second, .val (.int p2), .val (.int p3), .val (.int p4), .val (.ref s1), .val (.ref s2), .val (.ref s3), .val (.ref s4), .unset, .unset, .unset, .unset, .unset, .unset, .unset, .unset, .unset] [(.ref va), (.ref va)])) (fun T_ L_ X_ t_ q_ => XS.dup X_.here C.hx rfl (C.d at_94) rfl rfl q_) ?_
  refine Go.plain (g' := (mkF m 96 #[.val (.long p0), .second, .val (.long p1), .second, .val (.int p2), .val (.int p3), .val (.int p4), .val (.ref s1), .val (.ref s2), .val (.ref s3), .val (.ref s4), .unset, .unset, .unset, .unset, .unset, .unset, .unset, .unset, .unset] [(.int (4 : Int32)), (.ref va), (.ref va)])) (fun T_ L_ X_ t_ q_ => XS.iconst X_.here C.hx rfl (C.d at_95) q_) ?_
  refine Go.getS C (host := "") (Or.inl (hw _ (List.mem_of_getElem? (i := 50) rfl))) Via.refl SV4 at_96 (pc' := 99) rfl ?_
  refine Go.old fun hE => ?_
  have I4 : Ins Z h9 e4 "com/example/tejuelo/tejuelo/core/Verdict" true := Ins.self (AV4.ext hE)
  have sto4 : Sto Z h9 va (.ref e4) := by obtain ⟨cl, A, q, -⟩ := V_va; exact Sto.ofV A q O_va I4
  refine Go.stR C V_va rfl rfl sto4 ⟨by decide, by decide⟩ (i := 4) rfl (Nat.le_of_ble_eq_true rfl) z_va at_99 (pc' := 100) rfl ?_
  intro h10 W_h10 V_va
  have E_s1 := E_s1.wr W_h10
  have E_s2 := E_s2.wr W_h10
  have E_s3 := E_s3.wr W_h10
  have E_s4 := E_s4.wr W_h10
  refine Go.plain (g' := (mkF m 102 #[.val (.long p0), .second, .val (.long p1), .second, .val (.int p2), .val (.int p3), .val (.int p4), .val (.ref s1), .val (.ref s2), .val (.ref s3), .val (.ref s4), .val (.ref va), .unset, .unset, .unset, .unset, .unset, .unset, .unset, .unset] [])) (fun T_ L_ X_ t_ q_ => XS.astore X_.here C.hx rfl (C.d at_100) rfl rfl (l' := #[.val (.long p0), .second, .val (.long p1), .second, .val (.int p2), .val (.int p3), .val (.int p4), .val (.ref s1), .val (.ref s2), .val (.ref s3), .val (.ref s4), .val (.ref va), .unset, .unset, .unset, .unset, .unset, .unset, .unset, .unset]) rfl q_) ?_
  refine Go.plain (g' := (mkF m 104 #[.val (.long p0), .second, .val (.long p1), .second, .val (.int p2), .val (.int p3), .val (.int p4), .val (.ref s1), .val (.ref s2), .val (.ref s3), .val (.ref s4), .val (.ref va), .unset, .unset, .unset, .unset, .unset, .unset, .unset, .unset] [(.ref va)])) (fun T_ L_ X_ t_ q_ => XS.aload X_.here C.hx rfl (C.d at_102) rfl rfl q_) ?_
  refine Go.plain (g' := (mkF m 106 #[.val (.long p0), .second, .val (.long p1), .second, .val (.int p2), .val (.int p3), .val (.int p4), .val (.ref s1), .val (.ref s2), .val (.ref s3), .val (.ref s4), .val (.ref va), .unset, .unset, .unset, .unset, .unset, .unset, .unset, .unset] [(.int p2), (.ref va)])) (fun T_ L_ X_ t_ q_ => XS.iload X_.here C.hx rfl (C.d at_104) rfl q_) ?_
  refine Go.ldcI C (hw _ (List.mem_of_getElem? (i := 52) rfl)) at_106 (pc' := 108) rfl ?_
  refine Go.plain (g' := (mkF m 109 #[.val (.long p0), .second, .val (.long p1), .second, .val (.int p2), .val (.int p3), .val (.int p4), .val (.ref s1), .val (.ref s2), .val (.ref s3), .val (.ref s4), .val (.ref va), .unset, .unset, .unset, .unset, .unset, .unset, .unset, .unset] [(.int (p2 &&& (2147483647 : Int32))), (.ref va)])) (fun T_ L_ X_ t_ q_ => XS.iand X_.here C.hx rfl (C.d at_108) rfl q_) ?_
  refine Go.plain (g' := (mkF m 110 #[.val (.long p0), .second, .val (.long p1), .second, .val (.int p2), .val (.int p3), .val (.int p4), .val (.ref s1), .val (.ref s2), .val (.ref s3), .val (.ref s4), .val (.ref va), .unset, .unset, .unset, .unset, .unset, .unset, .unset, .unset] [(.int (5 : Int32)), (.int (p2 &&& (2147483647 : Int32))), (.ref va)])) (fun T_ L_ X_ t_ q_ => XS.iconst X_.here C.hx rfl (C.d at_109) q_) ?_
  refine Go.irem C at_110 (by decide) (pc' := 111) rfl ?_
  have V_va : Arv Z h10 va kV (.object "com/example/tejuelo/tejuelo/core/Verdict") (5 : Int32) [.ref e0, .ref e1, .ref e2, .ref e3, .ref e4] .null := V_va
  obtain ⟨vd, hj1, hj2⟩ := pick5 p2 e0 e1 e2 e3 e4
  refine Go.aaload C V_va rfl hj1 hj2 at_111 (pc' := 112) rfl ?_
  refine Go.plain (g' := (mkF m 114 #[.val (.long p0), .second, .val (.long p1), .second, .val (.int p2), .val (.int p3), .val (.int p4), .val (.ref s1), .val (.ref s2), .val (.ref s3), .val (.ref s4), .val (.ref va), .val (.ref vd), .unset, .unset, .unset, .unset, .unset, .unset, .unset] [])) (fun T_ L_ X_ t_ q_ => XS.astore X_.here C.hx rfl (C.d at_112) rfl rfl (l' := #[.val (.long p0), .second, .val (.long p1), .second, .val (.int p2), .val (.int p3), .val (.int p4), .val (.ref s1), .val (.ref s2), .val (.ref s3), .val (.ref s4), .val (.ref va), .val (.ref vd), .unset, .unset, .unset, .unset, .unset, .unset, .unset]) rfl q_) ?_
  have J186 : ∀ (hj : Heap) (old sv : Addr), Exa Z hj s1 "java/lang/String" → Exa Z hj s2 "java/lang/String" → Exa Z hj s3 "java/lang/String" → Exa Z hj s4 "java/lang/String" → Exa Z hj sv "java/lang/String" → Go p l e room_1 s m #[(.long p0), (.long p1), (.int p2), (.int p3), (.int p4)] below meth c Z (fun v h => v = some (.int (1 : Int32))) hj 19 51 (mkF m 186 #[.val (.long p0), .second, .val (.long p1), .second, .val (.int p2), .val (.int p3), .val (.int p4), .val (.ref s1), .val (.ref s2), .val (.ref s3), .val (.ref s4), .val (.ref va), .val (.ref vd), .val (.ref old), .val (.ref sv), .unset, .unset, .unset, .unset, .unset] []) := by
    intro hj old sv E_s1 E_s2 E_s3 E_s4 E_sv
    refine Go.new C (hw _ (List.mem_of_getElem? (i := 58) rfl)) (hw _ (List.mem_of_getElem? (i := 59) rfl)) (hw _ (List.mem_of_getElem? (i := 60) rfl)) at_186 (pc' := 189) rfl (k' := 20) (n' := 57) rfl rfl (by decide) (by decide) ?_
    intro f h11 q_f z_f E_f A_f D_f
    have B1 : Fld Z h11 f "com/example/tejuelo/tejuelo/core/Finding" "code" "Ljava/lang/String;" .null := D_f (Or.inr (hw _ (List.mem_of_getElem? (i := 71) rfl))) (ty := (.object "java/lang/String")) (by decide)
    have B2 : Fld Z h11 f "com/example/tejuelo/tejuelo/core/Finding" "field" "Ljava/lang/String;" .null := D_f (Or.inr (hw _ (List.mem_of_getElem? (i := 73) rfl))) (ty := (.object "java/lang/String")) (by decide)
    have B3 : Fld Z h11 f "com/example/tejuelo/tejuelo/core/Finding" "message" "Ljava/lang/String;" .null := D_f (Or.inr (hw _ (List.mem_of_getElem? (i := 75) rfl))) (ty := (.object "java/lang/String")) (by decide)
    have B4 : Fld Z h11 f "com/example/tejuelo/tejuelo/core/Finding" "clause" "Ljava/lang/String;" .null := D_f (Or.inr (hw _ (List.mem_of_getElem? (i := 77) rfl))) (ty := (.object "java/lang/String")) (by decide)
    have B5 : Fld Z h11 f "com/example/tejuelo/tejuelo/core/Finding" "verdict" "Lcom/example/tejuelo/tejuelo/core/Verdict;" .null := D_f (Or.inr (hw _ (List.mem_of_getElem? (i := 79) rfl))) (ty := (.object "com/example/tejuelo/tejuelo/core/Verdict")) (by decide)
    have B6 : Fld Z h11 f "com/example/tejuelo/tejuelo/core/Finding" "value" "Ljava/util/Optional;" .null := D_f (Or.inr (hw _ (List.mem_of_getElem? (i := 81) rfl))) (ty := (.object "java/util/Optional")) (by decide)
    refine Go.plain (g' := (mkF m 190 #[.val (.long p0), .second, .val (.long p1), .second, .val (.int p2), .val (.int p3), .val (.int p4), .val (.ref s1), .val (.ref s2), .val (.ref s3), .val (.ref s4), .val (.ref va), .val (.ref vd), .val (.ref old), .val (.ref sv), .unset, .unset, .unset, .unset, .unset] [(.ref f), (.ref f)])) (fun T_ L_ X_ t_ q_ => XS.dup X_.here C.hx rfl (C.d at_189) rfl rfl q_) ?_
    refine Go.plain (g' := (mkF m 192 #[.val (.long p0), .second, .val (.long p1), .second, .val (.int p2), .val (.int p3), .val (.int p4), .val (.ref s1), .val (.ref s2), .val (.ref s3), .val (.ref s4), .val (.ref va), .val (.ref vd), .val (.ref old), .val (.ref sv), .unset, .unset, .unset, .unset, .unset] [(.ref s1), (.ref f), (.ref f)])) (fun T_ L_ X_ t_ q_ => XS.aload X_.here C.hx rfl (C.d at_190) rfl rfl q_) ?_
    refine Go.plain (g' := (mkF m 194 #[.val (.long p0), .second, .val (.long p1), .second, .val (.int p2), .val (.int p3), .val (.int p4), .val (.ref s1), .val (.ref s2), .val (.ref s3), .val (.ref s4), .val (.ref va), .val (.ref vd), .val (.ref old), .val (.ref sv), .unset, .unset, .unset, .unset, .unset] [(.ref s2), (.ref s1), (.ref f), (.ref f)])) (fun T_ L_ X_ t_ q_ => XS.aload X_.here C.hx rfl (C.d at_192) rfl rfl q_) ?_
    refine Go.plain (g' := (mkF m 196 #[.val (.long p0), .second, .val (.long p1), .second, .val (.int p2), .val (.int p3), .val (.int p4), .val (.ref s1), .val (.ref s2), .val (.ref s3), .val (.ref s4), .val (.ref va), .val (.ref vd), .val (.ref old), .val (.ref sv), .unset, .unset, .unset, .unset, .unset] [(.ref s3), (.ref s2), (.ref s1), (.ref f), (.ref f)])) (fun T_ L_ X_ t_ q_ => XS.aload X_.here C.hx rfl (C.d at_194) rfl rfl q_) ?_
    refine Go.plain (g' := (mkF m 198 #[.val (.long p0), .second, .val (.long p1), .second, .val (.int p2), .val (.int p3), .val (.int p4), .val (.ref s1), .val (.ref s2), .val (.ref s3), .val (.ref s4), .val (.ref va), .val (.ref vd), .val (.ref old), .val (.ref sv), .unset, .unset, .unset, .unset, .unset] [(.ref s4), (.ref s3), (.ref s2), (.ref s1), (.ref f), (.ref f)])) (fun T_ L_ X_ t_ q_ => XS.aload X_.here C.hx rfl (C.d at_196) rfl rfl q_) ?_
    refine Go.plain (g' := (mkF m 200 #[.val (.long p0), .second, .val (.long p1), .second, .val (.int p2), .val (.int p3), .val (.int p4), .val (.ref s1), .val (.ref s2), .val (.ref s3), .val (.ref s4), .val (.ref va), .val (.ref vd), .val (.ref old), .val (.ref sv), .unset, .unset, .unset, .unset, .unset] [(.ref vd), (.ref s4), (.ref s3), (.ref s2), (.ref s1), (.ref f), (.ref f)])) (fun T_ L_ X_ t_ q_ => XS.aload X_.here C.hx rfl (C.d at_198) rfl rfl q_) ?_
    refine Go.plain (g' := (mkF m 202 #[.val (.long p0), .second, .val (.long p1), .second, .val (.int p2), .val (.int p3), .val (.int p4), .val (.ref s1), .val (.ref s2), .val (.ref s3), .val (.ref s4), .val (.ref va), .val (.ref vd), .val (.ref old), .val (.ref sv), .unset, .unset, .unset, .unset, .unset] [(.ref old), (.ref vd), (.ref s4), (.ref s3), (.ref s2), (.ref s1), (.ref f), (.ref f)])) (fun T_ L_ X_ t_ q_ => XS.aload X_.here C.hx rfl (C.d at_200) rfl rfl q_) ?_
    refine Go.special C (a := f) (P_fin l Z a0 hw f s1 s2 s3 s4 vd old h11 A_f B1 B2 B3 B4 B5 B6 z_f) rfl (hw _ (List.mem_of_getElem? (i := 61) rfl)) (hw _ (List.mem_of_getElem? (i := 62) rfl)) (hw _ (List.mem_of_getElem? (i := 60) rfl)) (hw _ (List.mem_of_getElem? (i := 63) rfl)) (by decide) pd_7 (argsL := [(.ref s1), (.ref s2), (.ref s3), (.ref s4), (.ref vd), (.ref old)]) (rest := [(.ref f)]) rfl rfl at_202 (pc' := 205) rfl rfl rfl (W := 1) (Nat.le_of_eq rfl) (by decide) (by decide) (k' := 20) (n' := 57) rfl rfl (by decide) (by decide) ?_
    rintro _ h60 ⟨rfl, K6, E_f', F1, F2, F3, F4, F5, F6⟩
    show Go p l e room_1 s m #[(.long p0), (.long p1), (.int p2), (.int p3), (.int p4)] below meth c Z (fun v h => v = some (.int (1 : Int32))) h60 20 57 (mkF m 205 #[.val (.long p0), .second, .val (.long p1), .second, .val (.int p2), .val (.int p3), .val (.int p4), .val (.ref s1), .val (.ref s2), .val (.ref s3), .val (.ref s4), .val (.ref va), .val (.ref vd), .val (.ref old), .val (.ref sv), .unset, .unset, .unset, .unset, .unset] [(.ref f)])
    have X6 := ext_keep1 E_f K6 (Nat.le_of_eq q_f.symm)
    have E_s1 := E_s1.ext X6
    have E_s2 := E_s2.ext X6
    have E_s3 := E_s3.ext X6
    have E_s4 := E_s4.ext X6
    have E_sv := E_sv.ext X6
    refine Go.plain (g' := (mkF m 207 #[.val (.long p0), .second, .val (.long p1), .second, .val (.int p2), .val (.int p3), .val (.int p4), .val (.ref s1), .val (.ref s2), .val (.ref s3), .val (.ref s4), .val (.ref va), .val (.ref vd), .val (.ref old), .val (.ref sv), .val (.ref f), .unset, .unset, .unset, .unset] [])) (fun T_ L_ X_ t_ q_ => XS.astore X_.here C.hx rfl (C.d at_205) rfl rfl (l' := #[.val (.long p0), .second, .val (.long p1), .second, .val (.int p2), .val (.int p3), .val (.int p4), .val (.ref s1), .val (.ref s2), .val (.ref s3), .val (.ref s4), .val (.ref va), .val (.ref vd), .val (.ref old), .val (.ref sv), .val (.ref f), .unset, .unset, .unset, .unset]) rfl q_) ?_
    refine Go.plain (g' := (mkF m 209 #[.val (.long p0), .second, .val (.long p1), .second, .val (.int p2), .val (.int p3), .val (.int p4), .val (.ref s1), .val (.ref s2), .val (.ref s3), .val (.ref s4), .val (.ref va), .val (.ref vd), .val (.ref old), .val (.ref sv), .val (.ref f), .unset, .unset, .unset, .unset] [(.ref f)])) (fun T_ L_ X_ t_ q_ => XS.aload X_.here C.hx rfl (C.d at_207) rfl rfl q_) ?_
    refine Go.plain (g' := (mkF m 211 #[.val (.long p0), .second, .val (.long p1), .second, .val (.int p2), .val (.int p3), .val (.int p4), .val (.ref s1), .val (.ref s2), .val (.ref s3), .val (.ref s4), .val (.ref va), .val (.ref vd), .val (.ref old), .val (.ref sv), .val (.ref f), .unset, .unset, .unset, .unset] [(.ref sv), (.ref f)])) (fun T_ L_ X_ t_ q_ => XS.aload X_.here C.hx rfl (C.d at_209) rfl rfl q_) ?_
    refine Go.virt C (a := f) (P_about l Z a0 hw f sv s1 s2 s3 s4 vd old h60 F1 F2 F3 F4 F5 F6) E_f' (hw _ (List.mem_of_getElem? (i := 82) rfl)) (hw _ (List.mem_of_getElem? (i := 83) rfl)) (hw _ (List.mem_of_getElem? (i := 85) rfl)) (hw _ (List.mem_of_getElem? (i := 84) rfl)) (hw _ (List.mem_of_getElem? (i := 60) rfl)) (hw _ (List.mem_of_getElem? (i := 86) rfl)) (by decide) pd_10 (argsL := [(.ref sv)]) (rest := []) rfl rfl at_211 (pc' := 214) rfl rfl rfl (W := 0) (Nat.le_of_eq rfl) (by decide) (by decide) (k' := 22) (n' := 64) rfl rfl (by decide) (by decide) ?_
    rintro _ h61 ⟨r, t, rfl, X7, E_r, R1, R2, R3, R4, R5, R6, EO, FO⟩
    show Go p l e room_1 s m #[(.long p0), (.long p1), (.int p2), (.int p3), (.int p4)] below meth c Z (fun v h => v = some (.int (1 : Int32))) h61 22 64 (mkF m 214 #[.val (.long p0), .second, .val (.long p1), .second, .val (.int p2), .val (.int p3), .val (.int p4), .val (.ref s1), .val (.ref s2), .val (.ref s3), .val (.ref s4), .val (.ref va), .val (.ref vd), .val (.ref old), .val (.ref sv), .val (.ref f), .unset, .unset, .unset, .unset] [(.ref r)])
    have E_s1 := E_s1.ext X7
    have E_s2 := E_s2.ext X7
    have E_s3 := E_s3.ext X7
    have E_s4 := E_s4.ext X7
    have E_sv := E_sv.ext X7
    have E_f' := E_f'.ext X7
    have F1 := F1.ext X7
    have F2 := F2.ext X7
    have F3 := F3.ext X7
    have F4 := F4.ext X7
    have F5 := F5.ext X7
    have F6 := F6.ext X7
    refine Go.plain (g' := (mkF m 216 #[.val (.long p0), .second, .val (.long p1), .second, .val (.int p2), .val (.int p3), .val (.int p4), .val (.ref s1), .val (.ref s2), .val (.ref s3), .val (.ref s4), .val (.ref va), .val (.ref vd), .val (.ref old), .val (.ref sv), .val (.ref f), .val (.ref r), .unset, .unset, .unset] [])) (fun T_ L_ X_ t_ q_ => XS.astore X_.here C.hx rfl (C.d at_214) rfl rfl (l' := #[.val (.long p0), .second, .val (.long p1), .second, .val (.int p2), .val (.int p3), .val (.int p4), .val (.ref s1), .val (.ref s2), .val (.ref s3), .val (.ref s4), .val (.ref va), .val (.ref vd), .val (.ref old), .val (.ref sv), .val (.ref f), .val (.ref r), .unset, .unset, .unset]) rfl q_) ?_
    refine Go.plain (g' := (mkF m 218 #[.val (.long p0), .second, .val (.long p1), .second, .val (.int p2), .val (.int p3), .val (.int p4), .val (.ref s1), .val (.ref s2), .val (.ref s3), .val (.ref s4), .val (.ref va), .val (.ref vd), .val (.ref old), .val (.ref sv), .val (.ref f), .val (.ref r), .unset, .unset, .unset] [(.ref r)])) (fun T_ L_ X_ t_ q_ => XS.aload X_.here C.hx rfl (C.d at_216) rfl rfl q_) ?_
    refine Go.plain (g' := (mkF m 221 #[.val (.long p0), .second, .val (.long p1), .second, .val (.int p2), .val (.int p3), .val (.int p4), .val (.ref s1), .val (.ref s2), .val (.ref s3), .val (.ref s4), .val (.ref va), .val (.ref vd), .val (.ref old), .val (.ref sv), .val (.ref f), .val (.ref r), .unset, .unset, .unset] [])) (fun T_ L_ X_ t_ q_ => XS.ifnullNo X_.here C.hx rfl (C.d at_218) rfl q_) ?_
    refine Go.plain (g' := (mkF m 223 #[.val (.long p0), .second, .val (.long p1), .second, .val (.int p2), .val (.int p3), .val (.int p4), .val (.ref s1), .val (.ref s2), .val (.ref s3), .val (.ref s4), .val (.ref va), .val (.ref vd), .val (.ref old), .val (.ref sv), .val (.ref f), .val (.ref r), .unset, .unset, .unset] [(.ref r)])) (fun T_ L_ X_ t_ q_ => XS.aload X_.here C.hx rfl (C.d at_221) rfl rfl q_) ?_
    refine Go.virt C (a := r) (P_g_value l Z a0 hw r t h61 R6) E_r (hw _ (List.mem_of_getElem? (i := 105) rfl)) (hw _ (List.mem_of_getElem? (i := 106) rfl)) (hw _ (List.mem_of_getElem? (i := 108) rfl)) (hw _ (List.mem_of_getElem? (i := 107) rfl)) (hw _ (List.mem_of_getElem? (i := 60) rfl)) (hw _ (List.mem_of_getElem? (i := 109) rfl)) (by decide) pd_11 (argsL := []) (rest := []) rfl rfl at_223 (pc' := 226) rfl rfl rfl (W := 0) (Nat.le_of_eq rfl) (by decide) (by decide) (k' := 22) (n' := 64) rfl rfl (by decide) (by decide) ?_
    rintro _ _ ⟨rfl, rfl⟩
    show Go p l e room_1 s m #[(.long p0), (.long p1), (.int p2), (.int p3), (.int p4)] below meth c Z (fun v h => v = some (.int (1 : Int32))) h61 22 64 (mkF m 226 #[.val (.long p0), .second, .val (.long p1), .second, .val (.int p2), .val (.int p3), .val (.int p4), .val (.ref s1), .val (.ref s2), .val (.ref s3), .val (.ref s4), .val (.ref va), .val (.ref vd), .val (.ref old), .val (.ref sv), .val (.ref f), .val (.ref r), .unset, .unset, .unset] [(.ref t)])
    refine Go.plain (g' := (mkF m 231 #[.val (.long p0), .second, .val (.long p1), .second, .val (.int p2), .val (.int p3), .val (.int p4), .val (.ref s1), .val (.ref s2), .val (.ref s3), .val (.ref s4), .val (.ref va), .val (.ref vd), .val (.ref old), .val (.ref sv), .val (.ref f), .val (.ref r), .unset, .unset, .unset] [])) (fun T_ L_ X_ t_ q_ => XS.ifnonnullYes X_.here C.hx rfl (pc0 := 226) (pc' := 231) rfl (C.d at_226) rfl (by decide) (by decide) q_) ?_
    refine Go.plain (g' := (mkF m 233 #[.val (.long p0), .second, .val (.long p1), .second, .val (.int p2), .val (.int p3), .val (.int p4), .val (.ref s1), .val (.ref s2), .val (.ref s3), .val (.ref s4), .val (.ref va), .val (.ref vd), .val (.ref old), .val (.ref sv), .val (.ref f), .val (.ref r), .unset, .unset, .unset] [(.ref s1)])) (fun T_ L_ X_ t_ q_ => XS.aload X_.here C.hx rfl (C.d at_231) rfl rfl q_) ?_
    refine Go.plain (g' := (mkF m 235 #[.val (.long p0), .second, .val (.long p1), .second, .val (.int p2), .val (.int p3), .val (.int p4), .val (.ref s1), .val (.ref s2), .val (.ref s3), .val (.ref s4), .val (.ref va), .val (.ref vd), .val (.ref old), .val (.ref sv), .val (.ref f), .val (.ref r), .unset, .unset, .unset] [(.ref r), (.ref s1)])) (fun T_ L_ X_ t_ q_ => XS.aload X_.here C.hx rfl (C.d at_233) rfl rfl q_) ?_
    refine Go.virt C (a := r) (P_g_code l Z a0 hw r s1 h61 R1) E_r (hw _ (List.mem_of_getElem? (i := 110) rfl)) (hw _ (List.mem_of_getElem? (i := 111) rfl)) (hw _ (List.mem_of_getElem? (i := 113) rfl)) (hw _ (List.mem_of_getElem? (i := 112) rfl)) (hw _ (List.mem_of_getElem? (i := 60) rfl)) (hw _ (List.mem_of_getElem? (i := 114) rfl)) (by decide) pd_12 (argsL := []) (rest := [(.ref s1)]) rfl rfl at_235 (pc' := 238) rfl rfl rfl (W := 1) (Nat.le_of_eq rfl) (by decide) (by decide) (k' := 22) (n' := 64) rfl rfl (by decide) (by decide) ?_
    rintro _ _ ⟨rfl, rfl⟩
    show Go p l e room_1 s m #[(.long p0), (.long p1), (.int p2), (.int p3), (.int p4)] below meth c Z (fun v h => v = some (.int (1 : Int32))) h61 22 64 (mkF m 238 #[.val (.long p0), .second, .val (.long p1), .second, .val (.int p2), .val (.int p3), .val (.int p4), .val (.ref s1), .val (.ref s2), .val (.ref s3), .val (.ref s4), .val (.ref va), .val (.ref vd), .val (.ref old), .val (.ref sv), .val (.ref f), .val (.ref r), .unset, .unset, .unset] [(.ref s1), (.ref s1)])
    refine Go.virt C (a := s1) (P_eq l Z a0 hw s1 h61) E_s1 (hw _ (List.mem_of_getElem? (i := 115) rfl)) (hw _ (List.mem_of_getElem? (i := 116) rfl)) (hw _ (List.mem_of_getElem? (i := 118) rfl)) (hw _ (List.mem_of_getElem? (i := 117) rfl)) (hw _ (List.mem_of_getElem? (i := 11) rfl)) (hw _ (List.mem_of_getElem? (i := 119) rfl)) (by decide) pd_13 (argsL := [(.ref s1)]) (rest := []) rfl rfl at_238 (pc' := 241) rfl rfl rfl (W := 0) (Nat.le_of_eq rfl) (by decide) (by decide) (k' := 22) (n' := 64) rfl rfl (by decide) (by decide) ?_
    rintro _ _ ⟨rfl, rfl⟩
    show Go p l e room_1 s m #[(.long p0), (.long p1), (.int p2), (.int p3), (.int p4)] below meth c Z (fun v h => v = some (.int (1 : Int32))) h61 22 64 (mkF m 241 #[.val (.long p0), .second, .val (.long p1), .second, .val (.int p2), .val (.int p3), .val (.int p4), .val (.ref s1), .val (.ref s2), .val (.ref s3), .val (.ref s4), .val (.ref va), .val (.ref vd), .val (.ref old), .val (.ref sv), .val (.ref f), .val (.ref r), .unset, .unset, .unset] [(.int (1 : Int32))])
    refine Go.plain (g' := (mkF m 244 #[.val (.long p0), .second, .val (.long p1), .second, .val (.int p2), .val (.int p3), .val (.int p4), .val (.ref s1), .val (.ref s2), .val (.ref s3), .val (.ref s4), .val (.ref va), .val (.ref vd), .val (.ref old), .val (.ref sv), .val (.ref f), .val (.ref r), .unset, .unset, .unset] [])) (fun T_ L_ X_ t_ q_ => XS.ifNo X_.here C.hx rfl (C.d at_241) rfl ((if0 _ _).trans (feq (by decide : ¬ ((1 : Int32) = (0 : Int32)))).1) q_) ?_
    refine Go.plain (g' := (mkF m 246 #[.val (.long p0), .second, .val (.long p1), .second, .val (.int p2), .val (.int p3), .val (.int p4), .val (.ref s1), .val (.ref s2), .val (.ref s3), .val (.ref s4), .val (.ref va), .val (.ref vd), .val (.ref old), .val (.ref sv), .val (.ref f), .val (.ref r), .unset, .unset, .unset] [(.ref s2)])) (fun T_ L_ X_ t_ q_ => XS.aload X_.here C.hx rfl (C.d at_244) rfl rfl q_) ?_
    refine Go.plain (g' := (mkF m 248 #[.val (.long p0), .second, .val (.long p1), .second, .val (.int p2), .val (.int p3), .val (.int p4), .val (.ref s1), .val (.ref s2), .val (.ref s3), .val (.ref s4), .val (.ref va), .val (.ref vd), .val (.ref old), .val (.ref sv), .val (.ref f), .val (.ref r), .unset, .unset, .unset] [(.ref r), (.ref s2)])) (fun T_ L_ X_ t_ q_ => XS.aload X_.here C.hx rfl (C.d at_246) rfl rfl q_) ?_
    refine Go.virt C (a := r) (P_g_field l Z a0 hw r s2 h61 R2) E_r (hw _ (List.mem_of_getElem? (i := 120) rfl)) (hw _ (List.mem_of_getElem? (i := 121) rfl)) (hw _ (List.mem_of_getElem? (i := 123) rfl)) (hw _ (List.mem_of_getElem? (i := 122) rfl)) (hw _ (List.mem_of_getElem? (i := 60) rfl)) (hw _ (List.mem_of_getElem? (i := 124) rfl)) (by decide) pd_12 (argsL := []) (rest := [(.ref s2)]) rfl rfl at_248 (pc' := 251) rfl rfl rfl (W := 1) (Nat.le_of_eq rfl) (by decide) (by decide) (k' := 22) (n' := 64) rfl rfl (by decide) (by decide) ?_
    rintro _ _ ⟨rfl, rfl⟩
    show Go p l e room_1 s m #[(.long p0), (.long p1), (.int p2), (.int p3), (.int p4)] below meth c Z (fun v h => v = some (.int (1 : Int32))) h61 22 64 (mkF m 251 #[.val (.long p0), .second, .val (.long p1), .second, .val (.int p2), .val (.int p3), .val (.int p4), .val (.ref s1), .val (.ref s2), .val (.ref s3), .val (.ref s4), .val (.ref va), .val (.ref vd), .val (.ref old), .val (.ref sv), .val (.ref f), .val (.ref r), .unset, .unset, .unset] [(.ref s2), (.ref s2)])
    refine Go.virt C (a := s2) (P_eq l Z a0 hw s2 h61) E_s2 (hw _ (List.mem_of_getElem? (i := 115) rfl)) (hw _ (List.mem_of_getElem? (i := 116) rfl)) (hw _ (List.mem_of_getElem? (i := 118) rfl)) (hw _ (List.mem_of_getElem? (i := 117) rfl)) (hw _ (List.mem_of_getElem? (i := 11) rfl)) (hw _ (List.mem_of_getElem? (i := 119) rfl)) (by decide) pd_13 (argsL := [(.ref s2)]) (rest := []) rfl rfl at_251 (pc' := 254) rfl rfl rfl (W := 0) (Nat.le_of_eq rfl) (by decide) (by decide) (k' := 22) (n' := 64) rfl rfl (by decide) (by decide) ?_
    rintro _ _ ⟨rfl, rfl⟩
    show Go p l e room_1 s m #[(.long p0), (.long p1), (.int p2), (.int p3), (.int p4)] below meth c Z (fun v h => v = some (.int (1 : Int32))) h61 22 64 (mkF m 254 #[.val (.long p0), .second, .val (.long p1), .second, .val (.int p2), .val (.int p3), .val (.int p4), .val (.ref s1), .val (.ref s2), .val (.ref s3), .val (.ref s4), .val (.ref va), .val (.ref vd), .val (.ref old), .val (.ref sv), .val (.ref f), .val (.ref r), .unset, .unset, .unset] [(.int (1 : Int32))])
    refine Go.plain (g' := (mkF m 257 #[.val (.long p0), .second, .val (.long p1), .second, .val (.int p2), .val (.int p3), .val (.int p4), .val (.ref s1), .val (.ref s2), .val (.ref s3), .val (.ref s4), .val (.ref va), .val (.ref vd), .val (.ref old), .val (.ref sv), .val (.ref f), .val (.ref r), .unset, .unset, .unset] [])) (fun T_ L_ X_ t_ q_ => XS.ifNo X_.here C.hx rfl (C.d at_254) rfl ((if0 _ _).trans (feq (by decide : ¬ ((1 : Int32) = (0 : Int32)))).1) q_) ?_
    refine Go.plain (g' := (mkF m 259 #[.val (.long p0), .second, .val (.long p1), .second, .val (.int p2), .val (.int p3), .val (.int p4), .val (.ref s1), .val (.ref s2), .val (.ref s3), .val (.ref s4), .val (.ref va), .val (.ref vd), .val (.ref old), .val (.ref sv), .val (.ref f), .val (.ref r), .unset, .unset, .unset] [(.ref s3)])) (fun T_ L_ X_ t_ q_ => XS.aload X_.here C.hx rfl (C.d at_257) rfl rfl q_) ?_
    refine Go.plain (g' := (mkF m 261 #[.val (.long p0), .second, .val (.long p1), .second, .val (.int p2), .val (.int p3), .val (.int p4), .val (.ref s1), .val (.ref s2), .val (.ref s3), .val (.ref s4), .val (.ref va), .val (.ref vd), .val (.ref old), .val (.ref sv), .val (.ref f), .val (.ref r), .unset, .unset, .unset] [(.ref r), (.ref s3)])) (fun T_ L_ X_ t_ q_ => XS.aload X_.here C.hx rfl (C.d at_259) rfl rfl q_) ?_
    refine Go.virt C (a := r) (P_g_message l Z a0 hw r s3 h61 R3) E_r (hw _ (List.mem_of_getElem? (i := 125) rfl)) (hw _ (List.mem_of_getElem? (i := 126) rfl)) (hw _ (List.mem_of_getElem? (i := 128) rfl)) (hw _ (List.mem_of_getElem? (i := 127) rfl)) (hw _ (List.mem_of_getElem? (i := 60) rfl)) (hw _ (List.mem_of_getElem? (i := 129) rfl)) (by decide) pd_12 (argsL := []) (rest := [(.ref s3)]) rfl rfl at_261 (pc' := 264) rfl rfl rfl (W := 1) (Nat.le_of_eq rfl) (by decide) (by decide) (k' := 22) (n' := 64) rfl rfl (by decide) (by decide) ?_
    rintro _ _ ⟨rfl, rfl⟩
    show Go p l e room_1 s m #[(.long p0), (.long p1), (.int p2), (.int p3), (.int p4)] below meth c Z (fun v h => v = some (.int (1 : Int32))) h61 22 64 (mkF m 264 #[.val (.long p0), .second, .val (.long p1), .second, .val (.int p2), .val (.int p3), .val (.int p4), .val (.ref s1), .val (.ref s2), .val (.ref s3), .val (.ref s4), .val (.ref va), .val (.ref vd), .val (.ref old), .val (.ref sv), .val (.ref f), .val (.ref r), .unset, .unset, .unset] [(.ref s3), (.ref s3)])
    refine Go.virt C (a := s3) (P_eq l Z a0 hw s3 h61) E_s3 (hw _ (List.mem_of_getElem? (i := 115) rfl)) (hw _ (List.mem_of_getElem? (i := 116) rfl)) (hw _ (List.mem_of_getElem? (i := 118) rfl)) (hw _ (List.mem_of_getElem? (i := 117) rfl)) (hw _ (List.mem_of_getElem? (i := 11) rfl)) (hw _ (List.mem_of_getElem? (i := 119) rfl)) (by decide) pd_13 (argsL := [(.ref s3)]) (rest := []) rfl rfl at_264 (pc' := 267) rfl rfl rfl (W := 0) (Nat.le_of_eq rfl) (by decide) (by decide) (k' := 22) (n' := 64) rfl rfl (by decide) (by decide) ?_
    rintro _ _ ⟨rfl, rfl⟩
    show Go p l e room_1 s m #[(.long p0), (.long p1), (.int p2), (.int p3), (.int p4)] below meth c Z (fun v h => v = some (.int (1 : Int32))) h61 22 64 (mkF m 267 #[.val (.long p0), .second, .val (.long p1), .second, .val (.int p2), .val (.int p3), .val (.int p4), .val (.ref s1), .val (.ref s2), .val (.ref s3), .val (.ref s4), .val (.ref va), .val (.ref vd), .val (.ref old), .val (.ref sv), .val (.ref f), .val (.ref r), .unset, .unset, .unset] [(.int (1 : Int32))])
    refine Go.plain (g' := (mkF m 270 #[.val (.long p0), .second, .val (.long p1), .second, .val (.int p2), .val (.int p3), .val (.int p4), .val (.ref s1), .val (.ref s2), .val (.ref s3), .val (.ref s4), .val (.ref va), .val (.ref vd), .val (.ref old), .val (.ref sv), .val (.ref f), .val (.ref r), .unset, .unset, .unset] [])) (fun T_ L_ X_ t_ q_ => XS.ifNo X_.here C.hx rfl (C.d at_267) rfl ((if0 _ _).trans (feq (by decide : ¬ ((1 : Int32) = (0 : Int32)))).1) q_) ?_
    refine Go.plain (g' := (mkF m 272 #[.val (.long p0), .second, .val (.long p1), .second, .val (.int p2), .val (.int p3), .val (.int p4), .val (.ref s1), .val (.ref s2), .val (.ref s3), .val (.ref s4), .val (.ref va), .val (.ref vd), .val (.ref old), .val (.ref sv), .val (.ref f), .val (.ref r), .unset, .unset, .unset] [(.ref s4)])) (fun T_ L_ X_ t_ q_ => XS.aload X_.here C.hx rfl (C.d at_270) rfl rfl q_) ?_
    refine Go.plain (g' := (mkF m 274 #[.val (.long p0), .second, .val (.long p1), .second, .val (.int p2), .val (.int p3), .val (.int p4), .val (.ref s1), .val (.ref s2), .val (.ref s3), .val (.ref s4), .val (.ref va), .val (.ref vd), .val (.ref old), .val (.ref sv), .val (.ref f), .val (.ref r), .unset, .unset, .unset] [(.ref r), (.ref s4)])) (fun T_ L_ X_ t_ q_ => XS.aload X_.here C.hx rfl (C.d at_272) rfl rfl q_) ?_
    refine Go.virt C (a := r) (P_g_clause l Z a0 hw r s4 h61 R4) E_r (hw _ (List.mem_of_getElem? (i := 130) rfl)) (hw _ (List.mem_of_getElem? (i := 131) rfl)) (hw _ (List.mem_of_getElem? (i := 133) rfl)) (hw _ (List.mem_of_getElem? (i := 132) rfl)) (hw _ (List.mem_of_getElem? (i := 60) rfl)) (hw _ (List.mem_of_getElem? (i := 134) rfl)) (by decide) pd_12 (argsL := []) (rest := [(.ref s4)]) rfl rfl at_274 (pc' := 277) rfl rfl rfl (W := 1) (Nat.le_of_eq rfl) (by decide) (by decide) (k' := 22) (n' := 64) rfl rfl (by decide) (by decide) ?_
    rintro _ _ ⟨rfl, rfl⟩
    show Go p l e room_1 s m #[(.long p0), (.long p1), (.int p2), (.int p3), (.int p4)] below meth c Z (fun v h => v = some (.int (1 : Int32))) h61 22 64 (mkF m 277 #[.val (.long p0), .second, .val (.long p1), .second, .val (.int p2), .val (.int p3), .val (.int p4), .val (.ref s1), .val (.ref s2), .val (.ref s3), .val (.ref s4), .val (.ref va), .val (.ref vd), .val (.ref old), .val (.ref sv), .val (.ref f), .val (.ref r), .unset, .unset, .unset] [(.ref s4), (.ref s4)])
    refine Go.virt C (a := s4) (P_eq l Z a0 hw s4 h61) E_s4 (hw _ (List.mem_of_getElem? (i := 115) rfl)) (hw _ (List.mem_of_getElem? (i := 116) rfl)) (hw _ (List.mem_of_getElem? (i := 118) rfl)) (hw _ (List.mem_of_getElem? (i := 117) rfl)) (hw _ (List.mem_of_getElem? (i := 11) rfl)) (hw _ (List.mem_of_getElem? (i := 119) rfl)) (by decide) pd_13 (argsL := [(.ref s4)]) (rest := []) rfl rfl at_277 (pc' := 280) rfl rfl rfl (W := 0) (Nat.le_of_eq rfl) (by decide) (by decide) (k' := 22) (n' := 64) rfl rfl (by decide) (by decide) ?_
    rintro _ _ ⟨rfl, rfl⟩
    show Go p l e room_1 s m #[(.long p0), (.long p1), (.int p2), (.int p3), (.int p4)] below meth c Z (fun v h => v = some (.int (1 : Int32))) h61 22 64 (mkF m 280 #[.val (.long p0), .second, .val (.long p1), .second, .val (.int p2), .val (.int p3), .val (.int p4), .val (.ref s1), .val (.ref s2), .val (.ref s3), .val (.ref s4), .val (.ref va), .val (.ref vd), .val (.ref old), .val (.ref sv), .val (.ref f), .val (.ref r), .unset, .unset, .unset] [(.int (1 : Int32))])
    refine Go.plain (g' := (mkF m 283 #[.val (.long p0), .second, .val (.long p1), .second, .val (.int p2), .val (.int p3), .val (.int p4), .val (.ref s1), .val (.ref s2), .val (.ref s3), .val (.ref s4), .val (.ref va), .val (.ref vd), .val (.ref old), .val (.ref sv), .val (.ref f), .val (.ref r), .unset, .unset, .unset] [])) (fun T_ L_ X_ t_ q_ => XS.ifNo X_.here C.hx rfl (C.d at_280) rfl ((if0 _ _).trans (feq (by decide : ¬ ((1 : Int32) = (0 : Int32)))).1) q_) ?_
    refine Go.plain (g' := (mkF m 285 #[.val (.long p0), .second, .val (.long p1), .second, .val (.int p2), .val (.int p3), .val (.int p4), .val (.ref s1), .val (.ref s2), .val (.ref s3), .val (.ref s4), .val (.ref va), .val (.ref vd), .val (.ref old), .val (.ref sv), .val (.ref f), .val (.ref r), .unset, .unset, .unset] [(.ref r)])) (fun T_ L_ X_ t_ q_ => XS.aload X_.here C.hx rfl (C.d at_283) rfl rfl q_) ?_
    refine Go.virt C (a := r) (P_g_verdict l Z a0 hw r vd h61 R5) E_r (hw _ (List.mem_of_getElem? (i := 135) rfl)) (hw _ (List.mem_of_getElem? (i := 136) rfl)) (hw _ (List.mem_of_getElem? (i := 138) rfl)) (hw _ (List.mem_of_getElem? (i := 137) rfl)) (hw _ (List.mem_of_getElem? (i := 60) rfl)) (hw _ (List.mem_of_getElem? (i := 139) rfl)) (by decide) pd_14 (argsL := []) (rest := []) rfl rfl at_285 (pc' := 288) rfl rfl rfl (W := 0) (Nat.le_of_eq rfl) (by decide) (by decide) (k' := 22) (n' := 64) rfl rfl (by decide) (by decide) ?_
    rintro _ _ ⟨rfl, rfl⟩
    show Go p l e room_1 s m #[(.long p0), (.long p1), (.int p2), (.int p3), (.int p4)] below meth c Z (fun v h => v = some (.int (1 : Int32))) h61 22 64 (mkF m 288 #[.val (.long p0), .second, .val (.long p1), .second, .val (.int p2), .val (.int p3), .val (.int p4), .val (.ref s1), .val (.ref s2), .val (.ref s3), .val (.ref s4), .val (.ref va), .val (.ref vd), .val (.ref old), .val (.ref sv), .val (.ref f), .val (.ref r), .unset, .unset, .unset] [(.ref vd)])
    refine Go.plain (g' := (mkF m 290 #[.val (.long p0), .second, .val (.long p1), .second, .val (.int p2), .val (.int p3), .val (.int p4), .val (.ref s1), .val (.ref s2), .val (.ref s3), .val (.ref s4), .val (.ref va), .val (.ref vd), .val (.ref old), .val (.ref sv), .val (.ref f), .val (.ref r), .unset, .unset, .unset] [(.ref vd), (.ref vd)])) (fun T_ L_ X_ t_ q_ => XS.aload X_.here C.hx rfl (C.d at_288) rfl rfl q_) ?_
    refine Go.plain (g' := (mkF m 293 #[.val (.long p0), .second, .val (.long p1), .second, .val (.int p2), .val (.int p3), .val (.int p4), .val (.ref s1), .val (.ref s2), .val (.ref s3), .val (.ref s4), .val (.ref va), .val (.ref vd), .val (.ref old), .val (.ref sv), .val (.ref f), .val (.ref r), .unset, .unset, .unset] [])) (fun T_ L_ X_ t_ q_ => Jvm.RoadKit.acmp (g := (mkF m 290 #[.val (.long p0), .second, .val (.long p1), .second, .val (.int p2), .val (.int p3), .val (.int p4), .val (.ref s1), .val (.ref s2), .val (.ref s3), .val (.ref s4), .val (.ref va), .val (.ref vd), .val (.ref old), .val (.ref sv), .val (.ref f), .val (.ref r), .unset, .unset, .unset] [(.ref vd), (.ref vd)])) X_ C.hx rfl rfl rfl (pc0 := 290) (pc' := 293) (same := true) rfl (C.d at_290) rfl (decide_eq_true rfl) (by decide) (by decide) q_) ?_
    refine Go.plain (g' := (mkF m 294 #[.val (.long p0), .second, .val (.long p1), .second, .val (.int p2), .val (.int p3), .val (.int p4), .val (.ref s1), .val (.ref s2), .val (.ref s3), .val (.ref s4), .val (.ref va), .val (.ref vd), .val (.ref old), .val (.ref sv), .val (.ref f), .val (.ref r), .unset, .unset, .unset] [(.int (1 : Int32))])) (fun T_ L_ X_ t_ q_ => XS.iconst X_.here C.hx rfl (C.d at_293) q_) ?_
    refine Go.plain (g' := (mkF m 298 #[.val (.long p0), .second, .val (.long p1), .second, .val (.int p2), .val (.int p3), .val (.int p4), .val (.ref s1), .val (.ref s2), .val (.ref s3), .val (.ref s4), .val (.ref va), .val (.ref vd), .val (.ref old), .val (.ref sv), .val (.ref f), .val (.ref r), .unset, .unset, .unset] [(.int (1 : Int32))])) (fun T_ L_ X_ t_ q_ => XS.goto X_.here C.hx rfl (pc0 := 294) (pc' := 298) rfl (C.d at_294) (by decide) (by decide) q_) ?_
    refine Go.plain (g' := (mkF m 300 #[.val (.long p0), .second, .val (.long p1), .second, .val (.int p2), .val (.int p3), .val (.int p4), .val (.ref s1), .val (.ref s2), .val (.ref s3), .val (.ref s4), .val (.ref va), .val (.ref vd), .val (.ref old), .val (.ref sv), .val (.ref f), .val (.ref r), .val (.int (1 : Int32)), .unset, .unset] [])) (fun T_ L_ X_ t_ q_ => XS.istore X_.here C.hx rfl (C.d at_298) rfl (l' := #[.val (.long p0), .second, .val (.long p1), .second, .val (.int p2), .val (.int p3), .val (.int p4), .val (.ref s1), .val (.ref s2), .val (.ref s3), .val (.ref s4), .val (.ref va), .val (.ref vd), .val (.ref old), .val (.ref sv), .val (.ref f), .val (.ref r), .val (.int (1 : Int32)), .unset, .unset]) rfl q_) ?_
    refine Go.plain (g' := (mkF m 302 #[.val (.long p0), .second, .val (.long p1), .second, .val (.int p2), .val (.int p3), .val (.int p4), .val (.ref s1), .val (.ref s2), .val (.ref s3), .val (.ref s4), .val (.ref va), .val (.ref vd), .val (.ref old), .val (.ref sv), .val (.ref f), .val (.ref r), .val (.int (1 : Int32)), .unset, .unset] [(.ref r)])) (fun T_ L_ X_ t_ q_ => XS.aload X_.here C.hx rfl (C.d at_300) rfl rfl q_) ?_
    refine Go.virt C (a := r) (P_g_value l Z a0 hw r t h61 R6) E_r (hw _ (List.mem_of_getElem? (i := 105) rfl)) (hw _ (List.mem_of_getElem? (i := 106) rfl)) (hw _ (List.mem_of_getElem? (i := 108) rfl)) (hw _ (List.mem_of_getElem? (i := 107) rfl)) (hw _ (List.mem_of_getElem? (i := 60) rfl)) (hw _ (List.mem_of_getElem? (i := 109) rfl)) (by decide) pd_11 (argsL := []) (rest := []) rfl rfl at_302 (pc' := 305) rfl rfl rfl (W := 0) (Nat.le_of_eq rfl) (by decide) (by decide) (k' := 22) (n' := 64) rfl rfl (by decide) (by decide) ?_
    rintro _ _ ⟨rfl, rfl⟩
    show Go p l e room_1 s m #[(.long p0), (.long p1), (.int p2), (.int p3), (.int p4)] below meth c Z (fun v h => v = some (.int (1 : Int32))) h61 22 64 (mkF m 305 #[.val (.long p0), .second, .val (.long p1), .second, .val (.int p2), .val (.int p3), .val (.int p4), .val (.ref s1), .val (.ref s2), .val (.ref s3), .val (.ref s4), .val (.ref va), .val (.ref vd), .val (.ref old), .val (.ref sv), .val (.ref f), .val (.ref r), .val (.int (1 : Int32)), .unset, .unset] [(.ref t)])
    refine Go.virt C (a := t) (P_isp l Z a0 hw t sv h61 FO) EO (hw _ (List.mem_of_getElem? (i := 140) rfl)) (hw _ (List.mem_of_getElem? (i := 141) rfl)) (hw _ (List.mem_of_getElem? (i := 143) rfl)) (hw _ (List.mem_of_getElem? (i := 142) rfl)) (hw _ (List.mem_of_getElem? (i := 55) rfl)) (hw _ (List.mem_of_getElem? (i := 144) rfl)) (by decide) pd_15 (argsL := []) (rest := []) rfl rfl at_305 (pc' := 308) rfl rfl rfl (W := 0) (Nat.le_of_eq rfl) (by decide) (by decide) (k' := 22) (n' := 64) rfl rfl (by decide) (by decide) ?_
    rintro _ _ ⟨rfl, rfl⟩
    show Go p l e room_1 s m #[(.long p0), (.long p1), (.int p2), (.int p3), (.int p4)] below meth c Z (fun v h => v = some (.int (1 : Int32))) h61 22 64 (mkF m 308 #[.val (.long p0), .second, .val (.long p1), .second, .val (.int p2), .val (.int p3), .val (.int p4), .val (.ref s1), .val (.ref s2), .val (.ref s3), .val (.ref s4), .val (.ref va), .val (.ref vd), .val (.ref old), .val (.ref sv), .val (.ref f), .val (.ref r), .val (.int (1 : Int32)), .unset, .unset] [(.int (1 : Int32))])
    refine Go.plain (g' := (mkF m 311 #[.val (.long p0), .second, .val (.long p1), .second, .val (.int p2), .val (.int p3), .val (.int p4), .val (.ref s1), .val (.ref s2), .val (.ref s3), .val (.ref s4), .val (.ref va), .val (.ref vd), .val (.ref old), .val (.ref sv), .val (.ref f), .val (.ref r), .val (.int (1 : Int32)), .unset, .unset] [])) (fun T_ L_ X_ t_ q_ => XS.ifNo X_.here C.hx rfl (C.d at_308) rfl ((if0 _ _).trans (feq (by decide : ¬ ((1 : Int32) = (0 : Int32)))).1) q_) ?_
    refine Go.plain (g' := (mkF m 313 #[.val (.long p0), .second, .val (.long p1), .second, .val (.int p2), .val (.int p3), .val (.int p4), .val (.ref s1), .val (.ref s2), .val (.ref s3), .val (.ref s4), .val (.ref va), .val (.ref vd), .val (.ref old), .val (.ref sv), .val (.ref f), .val (.ref r), .val (.int (1 : Int32)), .unset, .unset] [(.ref sv)])) (fun T_ L_ X_ t_ q_ => XS.aload X_.here C.hx rfl (C.d at_311) rfl rfl q_) ?_
    refine Go.plain (g' := (mkF m 315 #[.val (.long p0), .second, .val (.long p1), .second, .val (.int p2), .val (.int p3), .val (.int p4), .val (.ref s1), .val (.ref s2), .val (.ref s3), .val (.ref s4), .val (.ref va), .val (.ref vd), .val (.ref old), .val (.ref sv), .val (.ref f), .val (.ref r), .val (.int (1 : Int32)), .unset, .unset] [(.ref r), (.ref sv)])) (fun T_ L_ X_ t_ q_ => XS.aload X_.here C.hx rfl (C.d at_313) rfl rfl q_) ?_
    refine Go.virt C (a := r) (P_g_value l Z a0 hw r t h61 R6) E_r (hw _ (List.mem_of_getElem? (i := 105) rfl)) (hw _ (List.mem_of_getElem? (i := 106) rfl)) (hw _ (List.mem_of_getElem? (i := 108) rfl)) (hw _ (List.mem_of_getElem? (i := 107) rfl)) (hw _ (List.mem_of_getElem? (i := 60) rfl)) (hw _ (List.mem_of_getElem? (i := 109) rfl)) (by decide) pd_11 (argsL := []) (rest := [(.ref sv)]) rfl rfl at_315 (pc' := 318) rfl rfl rfl (W := 1) (Nat.le_of_eq rfl) (by decide) (by decide) (k' := 22) (n' := 64) rfl rfl (by decide) (by decide) ?_
    rintro _ _ ⟨rfl, rfl⟩
    show Go p l e room_1 s m #[(.long p0), (.long p1), (.int p2), (.int p3), (.int p4)] below meth c Z (fun v h => v = some (.int (1 : Int32))) h61 22 64 (mkF m 318 #[.val (.long p0), .second, .val (.long p1), .second, .val (.int p2), .val (.int p3), .val (.int p4), .val (.ref s1), .val (.ref s2), .val (.ref s3), .val (.ref s4), .val (.ref va), .val (.ref vd), .val (.ref old), .val (.ref sv), .val (.ref f), .val (.ref r), .val (.int (1 : Int32)), .unset, .unset] [(.ref t), (.ref sv)])
    refine Go.virt C (a := t) (P_get l Z a0 hw t sv h61 FO) EO (hw _ (List.mem_of_getElem? (i := 145) rfl)) (hw _ (List.mem_of_getElem? (i := 146) rfl)) (hw _ (List.mem_of_getElem? (i := 148) rfl)) (hw _ (List.mem_of_getElem? (i := 147) rfl)) (hw _ (List.mem_of_getElem? (i := 55) rfl)) (hw _ (List.mem_of_getElem? (i := 149) rfl)) (by decide) pd_16 (argsL := []) (rest := [(.ref sv)]) rfl rfl at_318 (pc' := 321) rfl rfl rfl (W := 1) (Nat.le_of_eq rfl) (by decide) (by decide) (k' := 22) (n' := 64) rfl rfl (by decide) (by decide) ?_
    rintro _ _ ⟨rfl, rfl⟩
    show Go p l e room_1 s m #[(.long p0), (.long p1), (.int p2), (.int p3), (.int p4)] below meth c Z (fun v h => v = some (.int (1 : Int32))) h61 22 64 (mkF m 321 #[.val (.long p0), .second, .val (.long p1), .second, .val (.int p2), .val (.int p3), .val (.int p4), .val (.ref s1), .val (.ref s2), .val (.ref s3), .val (.ref s4), .val (.ref va), .val (.ref vd), .val (.ref old), .val (.ref sv), .val (.ref f), .val (.ref r), .val (.int (1 : Int32)), .unset, .unset] [(.ref sv), (.ref sv)])
    refine Go.virt C (a := sv) (P_eq l Z a0 hw sv h61) E_sv (hw _ (List.mem_of_getElem? (i := 115) rfl)) (hw _ (List.mem_of_getElem? (i := 116) rfl)) (hw _ (List.mem_of_getElem? (i := 118) rfl)) (hw _ (List.mem_of_getElem? (i := 117) rfl)) (hw _ (List.mem_of_getElem? (i := 11) rfl)) (hw _ (List.mem_of_getElem? (i := 119) rfl)) (by decide) pd_13 (argsL := [(.ref sv)]) (rest := []) rfl rfl at_321 (pc' := 324) rfl rfl rfl (W := 0) (Nat.le_of_eq rfl) (by decide) (by decide) (k' := 22) (n' := 64) rfl rfl (by decide) (by decide) ?_
    rintro _ _ ⟨rfl, rfl⟩
    show Go p l e room_1 s m #[(.long p0), (.long p1), (.int p2), (.int p3), (.int p4)] below meth c Z (fun v h => v = some (.int (1 : Int32))) h61 22 64 (mkF m 324 #[.val (.long p0), .second, .val (.long p1), .second, .val (.int p2), .val (.int p3), .val (.int p4), .val (.ref s1), .val (.ref s2), .val (.ref s3), .val (.ref s4), .val (.ref va), .val (.ref vd), .val (.ref old), .val (.ref sv), .val (.ref f), .val (.ref r), .val (.int (1 : Int32)), .unset, .unset] [(.int (1 : Int32))])
    refine Go.plain (g' := (mkF m 327 #[.val (.long p0), .second, .val (.long p1), .second, .val (.int p2), .val (.int p3), .val (.int p4), .val (.ref s1), .val (.ref s2), .val (.ref s3), .val (.ref s4), .val (.ref va), .val (.ref vd), .val (.ref old), .val (.ref sv), .val (.ref f), .val (.ref r), .val (.int (1 : Int32)), .unset, .unset] [])) (fun T_ L_ X_ t_ q_ => XS.ifNo X_.here C.hx rfl (C.d at_324) rfl ((if0 _ _).trans (feq (by decide : ¬ ((1 : Int32) = (0 : Int32)))).1) q_) ?_
    refine Go.plain (g' := (mkF m 328 #[.val (.long p0), .second, .val (.long p1), .second, .val (.int p2), .val (.int p3), .val (.int p4), .val (.ref s1), .val (.ref s2), .val (.ref s3), .val (.ref s4), .val (.ref va), .val (.ref vd), .val (.ref old), .val (.ref sv), .val (.ref f), .val (.ref r), .val (.int (1 : Int32)), .unset, .unset] [(.int (1 : Int32))])) (fun T_ L_ X_ t_ q_ => XS.iconst X_.here C.hx rfl (C.d at_327) q_) ?_
    refine Go.plain (g' := (mkF m 332 #[.val (.long p0), .second, .val (.long p1), .second, .val (.int p2), .val (.int p3), .val (.int p4), .val (.ref s1), .val (.ref s2), .val (.ref s3), .val (.ref s4), .val (.ref va), .val (.ref vd), .val (.ref old), .val (.ref sv), .val (.ref f), .val (.ref r), .val (.int (1 : Int32)), .unset, .unset] [(.int (1 : Int32))])) (fun T_ L_ X_ t_ q_ => XS.goto X_.here C.hx rfl (pc0 := 328) (pc' := 332) rfl (C.d at_328) (by decide) (by decide) q_) ?_
    refine Go.plain (g' := (mkF m 334 #[.val (.long p0), .second, .val (.long p1), .second, .val (.int p2), .val (.int p3), .val (.int p4), .val (.ref s1), .val (.ref s2), .val (.ref s3), .val (.ref s4), .val (.ref va), .val (.ref vd), .val (.ref old), .val (.ref sv), .val (.ref f), .val (.ref r), .val (.int (1 : Int32)), .val (.int (1 : Int32)), .unset] [])) (fun T_ L_ X_ t_ q_ => XS.istore X_.here C.hx rfl (C.d at_332) rfl (l' := #[.val (.long p0), .second, .val (.long p1), .second, .val (.int p2), .val (.int p3), .val (.int p4), .val (.ref s1), .val (.ref s2), .val (.ref s3), .val (.ref s4), .val (.ref va), .val (.ref vd), .val (.ref old), .val (.ref sv), .val (.ref f), .val (.ref r), .val (.int (1 : Int32)), .val (.int (1 : Int32)), .unset]) rfl q_) ?_
    refine Go.plain (g' := (mkF m 336 #[.val (.long p0), .second, .val (.long p1), .second, .val (.int p2), .val (.int p3), .val (.int p4), .val (.ref s1), .val (.ref s2), .val (.ref s3), .val (.ref s4), .val (.ref va), .val (.ref vd), .val (.ref old), .val (.ref sv), .val (.ref f), .val (.ref r), .val (.int (1 : Int32)), .val (.int (1 : Int32)), .unset] [(.ref f)])) (fun T_ L_ X_ t_ q_ => XS.aload X_.here C.hx rfl (C.d at_334) rfl rfl q_) ?_
    refine Go.virt C (a := f) (P_g_value l Z a0 hw f old h61 F6) E_f' (hw _ (List.mem_of_getElem? (i := 105) rfl)) (hw _ (List.mem_of_getElem? (i := 106) rfl)) (hw _ (List.mem_of_getElem? (i := 108) rfl)) (hw _ (List.mem_of_getElem? (i := 107) rfl)) (hw _ (List.mem_of_getElem? (i := 60) rfl)) (hw _ (List.mem_of_getElem? (i := 109) rfl)) (by decide) pd_11 (argsL := []) (rest := []) rfl rfl at_336 (pc' := 339) rfl rfl rfl (W := 0) (Nat.le_of_eq rfl) (by decide) (by decide) (k' := 22) (n' := 64) rfl rfl (by decide) (by decide) ?_
    rintro _ _ ⟨rfl, rfl⟩
    show Go p l e room_1 s m #[(.long p0), (.long p1), (.int p2), (.int p3), (.int p4)] below meth c Z (fun v h => v = some (.int (1 : Int32))) h61 22 64 (mkF m 339 #[.val (.long p0), .second, .val (.long p1), .second, .val (.int p2), .val (.int p3), .val (.int p4), .val (.ref s1), .val (.ref s2), .val (.ref s3), .val (.ref s4), .val (.ref va), .val (.ref vd), .val (.ref old), .val (.ref sv), .val (.ref f), .val (.ref r), .val (.int (1 : Int32)), .val (.int (1 : Int32)), .unset] [(.ref old)])
    refine Go.plain (g' := (mkF m 341 #[.val (.long p0), .second, .val (.long p1), .second, .val (.int p2), .val (.int p3), .val (.int p4), .val (.ref s1), .val (.ref s2), .val (.ref s3), .val (.ref s4), .val (.ref va), .val (.ref vd), .val (.ref old), .val (.ref sv), .val (.ref f), .val (.ref r), .val (.int (1 : Int32)), .val (.int (1 : Int32)), .unset] [(.ref old), (.ref old)])) (fun T_ L_ X_ t_ q_ => XS.aload X_.here C.hx rfl (C.d at_339) rfl rfl q_) ?_
    refine Go.plain (g' := (mkF m 344 #[.val (.long p0), .second, .val (.long p1), .second, .val (.int p2), .val (.int p3), .val (.int p4), .val (.ref s1), .val (.ref s2), .val (.ref s3), .val (.ref s4), .val (.ref va), .val (.ref vd), .val (.ref old), .val (.ref sv), .val (.ref f), .val (.ref r), .val (.int (1 : Int32)), .val (.int (1 : Int32)), .unset] [])) (fun T_ L_ X_ t_ q_ => Jvm.RoadKit.acmp (g := (mkF m 341 #[.val (.long p0), .second, .val (.long p1), .second, .val (.int p2), .val (.int p3), .val (.int p4), .val (.ref s1), .val (.ref s2), .val (.ref s3), .val (.ref s4), .val (.ref va), .val (.ref vd), .val (.ref old), .val (.ref sv), .val (.ref f), .val (.ref r), .val (.int (1 : Int32)), .val (.int (1 : Int32)), .unset] [(.ref old), (.ref old)])) X_ C.hx rfl rfl rfl (pc0 := 341) (pc' := 344) (same := true) rfl (C.d at_341) rfl (decide_eq_true rfl) (by decide) (by decide) q_) ?_
    refine Go.plain (g' := (mkF m 346 #[.val (.long p0), .second, .val (.long p1), .second, .val (.int p2), .val (.int p3), .val (.int p4), .val (.ref s1), .val (.ref s2), .val (.ref s3), .val (.ref s4), .val (.ref va), .val (.ref vd), .val (.ref old), .val (.ref sv), .val (.ref f), .val (.ref r), .val (.int (1 : Int32)), .val (.int (1 : Int32)), .unset] [(.ref s1)])) (fun T_ L_ X_ t_ q_ => XS.aload X_.here C.hx rfl (C.d at_344) rfl rfl q_) ?_
    refine Go.plain (g' := (mkF m 348 #[.val (.long p0), .second, .val (.long p1), .second, .val (.int p2), .val (.int p3), .val (.int p4), .val (.ref s1), .val (.ref s2), .val (.ref s3), .val (.ref s4), .val (.ref va), .val (.ref vd), .val (.ref old), .val (.ref sv), .val (.ref f), .val (.ref r), .val (.int (1 : Int32)), .val (.int (1 : Int32)), .unset] [(.ref f), (.ref s1)])) (fun T_ L_ X_ t_ q_ => XS.aload X_.here C.hx rfl (C.d at_346) rfl rfl q_) ?_
    refine Go.virt C (a := f) (P_g_code l Z a0 hw f s1 h61 F1) E_f' (hw _ (List.mem_of_getElem? (i := 110) rfl)) (hw _ (List.mem_of_getElem? (i := 111) rfl)) (hw _ (List.mem_of_getElem? (i := 113) rfl)) (hw _ (List.mem_of_getElem? (i := 112) rfl)) (hw _ (List.mem_of_getElem? (i := 60) rfl)) (hw _ (List.mem_of_getElem? (i := 114) rfl)) (by decide) pd_12 (argsL := []) (rest := [(.ref s1)]) rfl rfl at_348 (pc' := 351) rfl rfl rfl (W := 1) (Nat.le_of_eq rfl) (by decide) (by decide) (k' := 22) (n' := 64) rfl rfl (by decide) (by decide) ?_
    rintro _ _ ⟨rfl, rfl⟩
    show Go p l e room_1 s m #[(.long p0), (.long p1), (.int p2), (.int p3), (.int p4)] below meth c Z (fun v h => v = some (.int (1 : Int32))) h61 22 64 (mkF m 351 #[.val (.long p0), .second, .val (.long p1), .second, .val (.int p2), .val (.int p3), .val (.int p4), .val (.ref s1), .val (.ref s2), .val (.ref s3), .val (.ref s4), .val (.ref va), .val (.ref vd), .val (.ref old), .val (.ref sv), .val (.ref f), .val (.ref r), .val (.int (1 : Int32)), .val (.int (1 : Int32)), .unset] [(.ref s1), (.ref s1)])
    refine Go.virt C (a := s1) (P_eq l Z a0 hw s1 h61) E_s1 (hw _ (List.mem_of_getElem? (i := 115) rfl)) (hw _ (List.mem_of_getElem? (i := 116) rfl)) (hw _ (List.mem_of_getElem? (i := 118) rfl)) (hw _ (List.mem_of_getElem? (i := 117) rfl)) (hw _ (List.mem_of_getElem? (i := 11) rfl)) (hw _ (List.mem_of_getElem? (i := 119) rfl)) (by decide) pd_13 (argsL := [(.ref s1)]) (rest := []) rfl rfl at_351 (pc' := 354) rfl rfl rfl (W := 0) (Nat.le_of_eq rfl) (by decide) (by decide) (k' := 22) (n' := 64) rfl rfl (by decide) (by decide) ?_
    rintro _ _ ⟨rfl, rfl⟩
    show Go p l e room_1 s m #[(.long p0), (.long p1), (.int p2), (.int p3), (.int p4)] below meth c Z (fun v h => v = some (.int (1 : Int32))) h61 22 64 (mkF m 354 #[.val (.long p0), .second, .val (.long p1), .second, .val (.int p2), .val (.int p3), .val (.int p4), .val (.ref s1), .val (.ref s2), .val (.ref s3), .val (.ref s4), .val (.ref va), .val (.ref vd), .val (.ref old), .val (.ref sv), .val (.ref f), .val (.ref r), .val (.int (1 : Int32)), .val (.int (1 : Int32)), .unset] [(.int (1 : Int32))])
    refine Go.plain (g' := (mkF m 357 #[.val (.long p0), .second, .val (.long p1), .second, .val (.int p2), .val (.int p3), .val (.int p4), .val (.ref s1), .val (.ref s2), .val (.ref s3), .val (.ref s4), .val (.ref va), .val (.ref vd), .val (.ref old), .val (.ref sv), .val (.ref f), .val (.ref r), .val (.int (1 : Int32)), .val (.int (1 : Int32)), .unset] [])) (fun T_ L_ X_ t_ q_ => XS.ifNo X_.here C.hx rfl (C.d at_354) rfl ((if0 _ _).trans (feq (by decide : ¬ ((1 : Int32) = (0 : Int32)))).1) q_) ?_
    refine Go.plain (g' := (mkF m 359 #[.val (.long p0), .second, .val (.long p1), .second, .val (.int p2), .val (.int p3), .val (.int p4), .val (.ref s1), .val (.ref s2), .val (.ref s3), .val (.ref s4), .val (.ref va), .val (.ref vd), .val (.ref old), .val (.ref sv), .val (.ref f), .val (.ref r), .val (.int (1 : Int32)), .val (.int (1 : Int32)), .unset] [(.ref f)])) (fun T_ L_ X_ t_ q_ => XS.aload X_.here C.hx rfl (C.d at_357) rfl rfl q_) ?_
    refine Go.virt C (a := f) (P_g_verdict l Z a0 hw f vd h61 F5) E_f' (hw _ (List.mem_of_getElem? (i := 135) rfl)) (hw _ (List.mem_of_getElem? (i := 136) rfl)) (hw _ (List.mem_of_getElem? (i := 138) rfl)) (hw _ (List.mem_of_getElem? (i := 137) rfl)) (hw _ (List.mem_of_getElem? (i := 60) rfl)) (hw _ (List.mem_of_getElem? (i := 139) rfl)) (by decide) pd_14 (argsL := []) (rest := []) rfl rfl at_359 (pc' := 362) rfl rfl rfl (W := 0) (Nat.le_of_eq rfl) (by decide) (by decide) (k' := 22) (n' := 64) rfl rfl (by decide) (by decide) ?_
    rintro _ _ ⟨rfl, rfl⟩
    show Go p l e room_1 s m #[(.long p0), (.long p1), (.int p2), (.int p3), (.int p4)] below meth c Z (fun v h => v = some (.int (1 : Int32))) h61 22 64 (mkF m 362 #[.val (.long p0), .second, .val (.long p1), .second, .val (.int p2), .val (.int p3), .val (.int p4), .val (.ref s1), .val (.ref s2), .val (.ref s3), .val (.ref s4), .val (.ref va), .val (.ref vd), .val (.ref old), .val (.ref sv), .val (.ref f), .val (.ref r), .val (.int (1 : Int32)), .val (.int (1 : Int32)), .unset] [(.ref vd)])
    refine Go.plain (g' := (mkF m 364 #[.val (.long p0), .second, .val (.long p1), .second, .val (.int p2), .val (.int p3), .val (.int p4), .val (.ref s1), .val (.ref s2), .val (.ref s3), .val (.ref s4), .val (.ref va), .val (.ref vd), .val (.ref old), .val (.ref sv), .val (.ref f), .val (.ref r), .val (.int (1 : Int32)), .val (.int (1 : Int32)), .unset] [(.ref vd), (.ref vd)])) (fun T_ L_ X_ t_ q_ => XS.aload X_.here C.hx rfl (C.d at_362) rfl rfl q_) ?_
    refine Go.plain (g' := (mkF m 367 #[.val (.long p0), .second, .val (.long p1), .second, .val (.int p2), .val (.int p3), .val (.int p4), .val (.ref s1), .val (.ref s2), .val (.ref s3), .val (.ref s4), .val (.ref va), .val (.ref vd), .val (.ref old), .val (.ref sv), .val (.ref f), .val (.ref r), .val (.int (1 : Int32)), .val (.int (1 : Int32)), .unset] [])) (fun T_ L_ X_ t_ q_ => Jvm.RoadKit.acmp (g := (mkF m 364 #[.val (.long p0), .second, .val (.long p1), .second, .val (.int p2), .val (.int p3), .val (.int p4), .val (.ref s1), .val (.ref s2), .val (.ref s3), .val (.ref s4), .val (.ref va), .val (.ref vd), .val (.ref old), .val (.ref sv), .val (.ref f), .val (.ref r), .val (.int (1 : Int32)), .val (.int (1 : Int32)), .unset] [(.ref vd), (.ref vd)])) X_ C.hx rfl rfl rfl (pc0 := 364) (pc' := 367) (same := true) rfl (C.d at_364) rfl (decide_eq_true rfl) (by decide) (by decide) q_) ?_
    refine Go.plain (g' := (mkF m 368 #[.val (.long p0), .second, .val (.long p1), .second, .val (.int p2), .val (.int p3), .val (.int p4), .val (.ref s1), .val (.ref s2), .val (.ref s3), .val (.ref s4), .val (.ref va), .val (.ref vd), .val (.ref old), .val (.ref sv), .val (.ref f), .val (.ref r), .val (.int (1 : Int32)), .val (.int (1 : Int32)), .unset] [(.int (1 : Int32))])) (fun T_ L_ X_ t_ q_ => XS.iconst X_.here C.hx rfl (C.d at_367) q_) ?_
    refine Go.plain (g' := (mkF m 372 #[.val (.long p0), .second, .val (.long p1), .second, .val (.int p2), .val (.int p3), .val (.int p4), .val (.ref s1), .val (.ref s2), .val (.ref s3), .val (.ref s4), .val (.ref va), .val (.ref vd), .val (.ref old), .val (.ref sv), .val (.ref f), .val (.ref r), .val (.int (1 : Int32)), .val (.int (1 : Int32)), .unset] [(.int (1 : Int32))])) (fun T_ L_ X_ t_ q_ => XS.goto X_.here C.hx rfl (pc0 := 368) (pc' := 372) rfl (C.d at_368) (by decide) (by decide) q_) ?_
    refine Go.plain (g' := (mkF m 374 #[.val (.long p0), .second, .val (.long p1), .second, .val (.int p2), .val (.int p3), .val (.int p4), .val (.ref s1), .val (.ref s2), .val (.ref s3), .val (.ref s4), .val (.ref va), .val (.ref vd), .val (.ref old), .val (.ref sv), .val (.ref f), .val (.ref r), .val (.int (1 : Int32)), .val (.int (1 : Int32)), .val (.int (1 : Int32))] [])) (fun T_ L_ X_ t_ q_ => XS.istore X_.here C.hx rfl (C.d at_372) rfl (l' := #[.val (.long p0), .second, .val (.long p1), .second, .val (.int p2), .val (.int p3), .val (.int p4), .val (.ref s1), .val (.ref s2), .val (.ref s3), .val (.ref s4), .val (.ref va), .val (.ref vd), .val (.ref old), .val (.ref sv), .val (.ref f), .val (.ref r), .val (.int (1 : Int32)), .val (.int (1 : Int32)), .val (.int (1 : Int32))]) rfl q_) ?_
    refine Go.plain (g' := (mkF m 376 #[.val (.long p0), .second, .val (.long p1), .second, .val (.int p2), .val (.int p3), .val (.int p4), .val (.ref s1), .val (.ref s2), .val (.ref s3), .val (.ref s4), .val (.ref va), .val (.ref vd), .val (.ref old), .val (.ref sv), .val (.ref f), .val (.ref r), .val (.int (1 : Int32)), .val (.int (1 : Int32)), .val (.int (1 : Int32))] [(.int (1 : Int32))])) (fun T_ L_ X_ t_ q_ => XS.iload X_.here C.hx rfl (C.d at_374) rfl q_) ?_
    refine Go.plain (g' := (mkF m 379 #[.val (.long p0), .second, .val (.long p1), .second, .val (.int p2), .val (.int p3), .val (.int p4), .val (.ref s1), .val (.ref s2), .val (.ref s3), .val (.ref s4), .val (.ref va), .val (.ref vd), .val (.ref old), .val (.ref sv), .val (.ref f), .val (.ref r), .val (.int (1 : Int32)), .val (.int (1 : Int32)), .val (.int (1 : Int32))] [])) (fun T_ L_ X_ t_ q_ => XS.ifNo X_.here C.hx rfl (C.d at_376) rfl ((if0 _ _).trans (feq (by decide : ¬ ((1 : Int32) = (0 : Int32)))).1) q_) ?_
    refine Go.plain (g' := (mkF m 381 #[.val (.long p0), .second, .val (.long p1), .second, .val (.int p2), .val (.int p3), .val (.int p4), .val (.ref s1), .val (.ref s2), .val (.ref s3), .val (.ref s4), .val (.ref va), .val (.ref vd), .val (.ref old), .val (.ref sv), .val (.ref f), .val (.ref r), .val (.int (1 : Int32)), .val (.int (1 : Int32)), .val (.int (1 : Int32))] [(.int (1 : Int32))])) (fun T_ L_ X_ t_ q_ => XS.iload X_.here C.hx rfl (C.d at_379) rfl q_) ?_
    refine Go.plain (g' := (mkF m 384 #[.val (.long p0), .second, .val (.long p1), .second, .val (.int p2), .val (.int p3), .val (.int p4), .val (.ref s1), .val (.ref s2), .val (.ref s3), .val (.ref s4), .val (.ref va), .val (.ref vd), .val (.ref old), .val (.ref sv), .val (.ref f), .val (.ref r), .val (.int (1 : Int32)), .val (.int (1 : Int32)), .val (.int (1 : Int32))] [])) (fun T_ L_ X_ t_ q_ => XS.ifNo X_.here C.hx rfl (C.d at_381) rfl ((if0 _ _).trans (feq (by decide : ¬ ((1 : Int32) = (0 : Int32)))).1) q_) ?_
    refine Go.plain (g' := (mkF m 386 #[.val (.long p0), .second, .val (.long p1), .second, .val (.int p2), .val (.int p3), .val (.int p4), .val (.ref s1), .val (.ref s2), .val (.ref s3), .val (.ref s4), .val (.ref va), .val (.ref vd), .val (.ref old), .val (.ref sv), .val (.ref f), .val (.ref r), .val (.int (1 : Int32)), .val (.int (1 : Int32)), .val (.int (1 : Int32))] [(.int (1 : Int32))])) (fun T_ L_ X_ t_ q_ => XS.iload X_.here C.hx rfl (C.d at_384) rfl q_) ?_
    refine Go.plain (g' := (mkF m 389 #[.val (.long p0), .second, .val (.long p1), .second, .val (.int p2), .val (.int p3), .val (.int p4), .val (.ref s1), .val (.ref s2), .val (.ref s3), .val (.ref s4), .val (.ref va), .val (.ref vd), .val (.ref old), .val (.ref sv), .val (.ref f), .val (.ref r), .val (.int (1 : Int32)), .val (.int (1 : Int32)), .val (.int (1 : Int32))] [])) (fun T_ L_ X_ t_ q_ => XS.ifNo X_.here C.hx rfl (C.d at_386) rfl ((if0 _ _).trans (feq (by decide : ¬ ((1 : Int32) = (0 : Int32)))).1) q_) ?_
    refine Go.plain (g' := (mkF m 390 #[.val (.long p0), .second, .val (.long p1), .second, .val (.int p2), .val (.int p3), .val (.int p4), .val (.ref s1), .val (.ref s2), .val (.ref s3), .val (.ref s4), .val (.ref va), .val (.ref vd), .val (.ref old), .val (.ref sv), .val (.ref f), .val (.ref r), .val (.int (1 : Int32)), .val (.int (1 : Int32)), .val (.int (1 : Int32))] [(.int (1 : Int32))])) (fun T_ L_ X_ t_ q_ => XS.iconst X_.here C.hx rfl (C.d at_389) q_) ?_
    refine Go.plain (g' := (mkF m 394 #[.val (.long p0), .second, .val (.long p1), .second, .val (.int p2), .val (.int p3), .val (.int p4), .val (.ref s1), .val (.ref s2), .val (.ref s3), .val (.ref s4), .val (.ref va), .val (.ref vd), .val (.ref old), .val (.ref sv), .val (.ref f), .val (.ref r), .val (.int (1 : Int32)), .val (.int (1 : Int32)), .val (.int (1 : Int32))] [(.int (1 : Int32))])) (fun T_ L_ X_ t_ q_ => XS.goto X_.here C.hx rfl (pc0 := 390) (pc' := 394) rfl (C.d at_390) (by decide) (by decide) q_) ?_
    exact Go.retN C (by simp) at_394 (by decide) (by decide) rfl
  have J143 : ∀ (hj : Heap) (old : Addr), Exa Z hj s1 "java/lang/String" → Exa Z hj s2 "java/lang/String" → Exa Z hj s3 "java/lang/String" → Exa Z hj s4 "java/lang/String" → Go p l e room_1 s m #[(.long p0), (.long p1), (.int p2), (.int p3), (.int p4)] below meth c Z (fun v h => v = some (.int (1 : Int32))) hj 16 43 (mkF m 143 #[.val (.long p0), .second, .val (.long p1), .second, .val (.int p2), .val (.int p3), .val (.int p4), .val (.ref s1), .val (.ref s2), .val (.ref s3), .val (.ref s4), .val (.ref va), .val (.ref vd), .val (.ref old), .unset, .unset, .unset, .unset, .unset, .unset] []) := by
    intro hj old E_s1 E_s2 E_s3 E_s4
    refine Go.plain (g' := (mkF m 145 #[.val (.long p0), .second, .val (.long p1), .second, .val (.int p2), .val (.int p3), .val (.int p4), .val (.ref s1), .val (.ref s2), .val (.ref s3), .val (.ref s4), .val (.ref va), .val (.ref vd), .val (.ref old), .unset, .unset, .unset, .unset, .unset, .unset] [(.int p4)])) (fun T_ L_ X_ t_ q_ => XS.iload X_.here C.hx rfl (C.d at_143) rfl q_) ?_
    refine Go.plain (g' := (mkF m 146 #[.val (.long p0), .second, .val (.long p1), .second, .val (.int p2), .val (.int p3), .val (.int p4), .val (.ref s1), .val (.ref s2), .val (.ref s3), .val (.ref s4), .val (.ref va), .val (.ref vd), .val (.ref old), .unset, .unset, .unset, .unset, .unset, .unset] [(.int (1 : Int32)), (.int p4)])) (fun T_ L_ X_ t_ q_ => XS.iconst X_.here C.hx rfl (C.d at_145) q_) ?_
    refine Go.plain (g' := (mkF m 147 #[.val (.long p0), .second, .val (.long p1), .second, .val (.int p2), .val (.int p3), .val (.int p4), .val (.ref s1), .val (.ref s2), .val (.ref s3), .val (.ref s4), .val (.ref va), .val (.ref vd), .val (.ref old), .unset, .unset, .unset, .unset, .unset, .unset] [(.int (p4 &&& (1 : Int32)))])) (fun T_ L_ X_ t_ q_ => XS.iand X_.here C.hx rfl (C.d at_146) rfl q_) ?_
    by_cases hf1 : (p4 &&& (1 : Int32)) = (0 : Int32)
    · refine Go.plain (g' := (mkF m 165 #[.val (.long p0), .second, .val (.long p1), .second, .val (.int p2), .val (.int p3), .val (.int p4), .val (.ref s1), .val (.ref s2), .val (.ref s3), .val (.ref s4), .val (.ref va), .val (.ref vd), .val (.ref old), .unset, .unset, .unset, .unset, .unset, .unset] [])) (fun T_ L_ X_ t_ q_ => XS.ifYes X_.here C.hx rfl (pc0 := 147) (pc' := 165) rfl (C.d at_147) rfl ((if0 _ _).trans (teq hf1).1) (by decide) (by decide) q_) ?_
      refine Go.plain (g' := (mkF m 167 #[.val (.long p0), .second, .val (.long p1), .second, .val (.int p2), .val (.int p3), .val (.int p4), .val (.ref s1), .val (.ref s2), .val (.ref s3), .val (.ref s4), .val (.ref va), .val (.ref vd), .val (.ref old), .unset, .unset, .unset, .unset, .unset, .unset] [(.int p3)])) (fun T_ L_ X_ t_ q_ => XS.iload X_.here C.hx rfl (C.d at_165) rfl q_) ?_
      refine Go.plain (g' := (mkF m 168 #[.val (.long p0), .second, .val (.long p1), .second, .val (.int p2), .val (.int p3), .val (.int p4), .val (.ref s1), .val (.ref s2), .val (.ref s3), .val (.ref s4), .val (.ref va), .val (.ref vd), .val (.ref old), .unset, .unset, .unset, .unset, .unset, .unset] [(.long (p3.toInt64))])) (fun T_ L_ X_ t_ q_ => XS.i2l X_.here C.hx rfl (C.d at_167) rfl q_) ?_
      refine Go.plain (g' := (mkF m 170 #[.val (.long p0), .second, .val (.long p1), .second, .val (.int p2), .val (.int p3), .val (.int p4), .val (.ref s1), .val (.ref s2), .val (.ref s3), .val (.ref s4), .val (.ref va), .val (.ref vd), .val (.ref old), .unset, .unset, .unset, .unset, .unset, .unset] [(.int (8 : Int32)), (.long (p3.toInt64))])) (fun T_ L_ X_ t_ q_ => XS.bipush X_.here C.hx rfl (C.d at_168) q_) ?_
      refine Go.static C (P_ch l Z a0 hw (p3.toInt64) (8 : Int32) hj) (hw _ (List.mem_of_getElem? (i := 0) rfl)) (hw _ (List.mem_of_getElem? (i := 1) rfl)) (hw _ (List.mem_of_getElem? (i := 2) rfl)) (hw _ (List.mem_of_getElem? (i := 3) rfl)) (by decide) pd_8 (argsL := [(.long (p3.toInt64)), (.int (8 : Int32))]) (rest := []) rfl rfl at_170 (pc' := 173) rfl rfl rfl (W := 0) (Nat.le_of_eq rfl) (by decide) (by decide) (k' := 16) (n' := 43) rfl rfl (by decide) (by decide) ?_
      rintro _ _ ⟨rfl, rfl⟩
      show Go p l e room_1 s m #[(.long p0), (.long p1), (.int p2), (.int p3), (.int p4)] below meth c Z (fun v h => v = some (.int (1 : Int32))) hj 16 43 (mkF m 173 #[.val (.long p0), .second, .val (.long p1), .second, .val (.int p2), .val (.int p3), .val (.int p4), .val (.ref s1), .val (.ref s2), .val (.ref s3), .val (.ref s4), .val (.ref va), .val (.ref vd), .val (.ref old), .unset, .unset, .unset, .unset, .unset, .unset] [(.int (chv (p3.toInt64) (8 : Int32)))])
      have r8 := chv_rng (p3.toInt64) (8 : Int32)
      generalize chv (p3.toInt64) (8 : Int32) = c8 at r8 ⊢
      refine Go.plain (g' := (mkF m 175 #[.val (.long p0), .second, .val (.long p1), .second, .val (.int p2), .val (.int p3), .val (.int p4), .val (.ref s1), .val (.ref s2), .val (.ref s3), .val (.ref s4), .val (.ref va), .val (.ref vd), .val (.ref old), .unset, .unset, .unset, .unset, .unset, .unset] [(.int p3), (.int c8)])) (fun T_ L_ X_ t_ q_ => XS.iload X_.here C.hx rfl (C.d at_173) rfl q_) ?_
      refine Go.plain (g' := (mkF m 176 #[.val (.long p0), .second, .val (.long p1), .second, .val (.int p2), .val (.int p3), .val (.int p4), .val (.ref s1), .val (.ref s2), .val (.ref s3), .val (.ref s4), .val (.ref va), .val (.ref vd), .val (.ref old), .unset, .unset, .unset, .unset, .unset, .unset] [(.long (p3.toInt64)), (.int c8)])) (fun T_ L_ X_ t_ q_ => XS.i2l X_.here C.hx rfl (C.d at_175) rfl q_) ?_
      refine Go.plain (g' := (mkF m 178 #[.val (.long p0), .second, .val (.long p1), .second, .val (.int p2), .val (.int p3), .val (.int p4), .val (.ref s1), .val (.ref s2), .val (.ref s3), .val (.ref s4), .val (.ref va), .val (.ref vd), .val (.ref old), .unset, .unset, .unset, .unset, .unset, .unset] [(.int (16 : Int32)), (.long (p3.toInt64)), (.int c8)])) (fun T_ L_ X_ t_ q_ => XS.bipush X_.here C.hx rfl (C.d at_176) q_) ?_
      refine Go.static C (P_ch l Z a0 hw (p3.toInt64) (16 : Int32) hj) (hw _ (List.mem_of_getElem? (i := 0) rfl)) (hw _ (List.mem_of_getElem? (i := 1) rfl)) (hw _ (List.mem_of_getElem? (i := 2) rfl)) (hw _ (List.mem_of_getElem? (i := 3) rfl)) (by decide) pd_8 (argsL := [(.long (p3.toInt64)), (.int (16 : Int32))]) (rest := [(.int c8)]) rfl rfl at_178 (pc' := 181) rfl rfl rfl (W := 1) (Nat.le_of_eq rfl) (by decide) (by decide) (k' := 16) (n' := 43) rfl rfl (by decide) (by decide) ?_
      rintro _ _ ⟨rfl, rfl⟩
      show Go p l e room_1 s m #[(.long p0), (.long p1), (.int p2), (.int p3), (.int p4)] below meth c Z (fun v h => v = some (.int (1 : Int32))) hj 16 43 (mkF m 181 #[.val (.long p0), .second, .val (.long p1), .second, .val (.int p2), .val (.int p3), .val (.int p4), .val (.ref s1), .val (.ref s2), .val (.ref s3), .val (.ref s4), .val (.ref va), .val (.ref vd), .val (.ref old), .unset, .unset, .unset, .unset, .unset, .unset] [(.int (chv (p3.toInt64) (16 : Int32))), (.int c8)])
      have r9 := chv_rng (p3.toInt64) (16 : Int32)
      generalize chv (p3.toInt64) (16 : Int32) = c9 at r9 ⊢
      refine Go.static C (P_two l Z a0 hw c8 c9 zc hj r8 r9 S0 hz) (hw _ (List.mem_of_getElem? (i := 5) rfl)) (hw _ (List.mem_of_getElem? (i := 6) rfl)) (hw _ (List.mem_of_getElem? (i := 2) rfl)) (hw _ (List.mem_of_getElem? (i := 7) rfl)) (by decide) pd_9 (argsL := [(.int c8), (.int c9)]) (rest := []) rfl rfl at_181 (pc' := 184) rfl rfl rfl (W := 0) (Nat.le_of_eq rfl) (by decide) (by decide) (k' := 19) (n' := 51) rfl rfl (by decide) (by decide) ?_
      rintro _ h12 ⟨sv, rfl, z_sv, X_sv, T_sv⟩
      show Go p l e room_1 s m #[(.long p0), (.long p1), (.int p2), (.int p3), (.int p4)] below meth c Z (fun v h => v = some (.int (1 : Int32))) h12 19 51 (mkF m 184 #[.val (.long p0), .second, .val (.long p1), .second, .val (.int p2), .val (.int p3), .val (.int p4), .val (.ref s1), .val (.ref s2), .val (.ref s3), .val (.ref s4), .val (.ref va), .val (.ref vd), .val (.ref old), .unset, .unset, .unset, .unset, .unset, .unset] [(.ref sv)])
      have E_s1 := E_s1.ext X_sv
      have E_s2 := E_s2.ext X_sv
      have E_s3 := E_s3.ext X_sv
      have E_s4 := E_s4.ext X_sv
      have E_sv := T_sv.exa
      refine Go.plain (g' := (mkF m 186 #[.val (.long p0), .second, .val (.long p1), .second, .val (.int p2), .val (.int p3), .val (.int p4), .val (.ref s1), .val (.ref s2), .val (.ref s3), .val (.ref s4), .val (.ref va), .val (.ref vd), .val (.ref old), .val (.ref sv), .unset, .unset, .unset, .unset, .unset] [])) (fun T_ L_ X_ t_ q_ => XS.astore X_.here C.hx rfl (C.d at_184) rfl rfl (l' := #[.val (.long p0), .second, .val (.long p1), .second, .val (.int p2), .val (.int p3), .val (.int p4), .val (.ref s1), .val (.ref s2), .val (.ref s3), .val (.ref s4), .val (.ref va), .val (.ref vd), .val (.ref old), .val (.ref sv), .unset, .unset, .unset, .unset, .unset]) rfl q_) ?_
      exact Go.more (by decide) (by decide) (J186 _ _ _ E_s1 E_s2 E_s3 E_s4 E_sv)
    · refine Go.plain (g' := (mkF m 150 #[.val (.long p0), .second, .val (.long p1), .second, .val (.int p2), .val (.int p3), .val (.int p4), .val (.ref s1), .val (.ref s2), .val (.ref s3), .val (.ref s4), .val (.ref va), .val (.ref vd), .val (.ref old), .unset, .unset, .unset, .unset, .unset, .unset] [])) (fun T_ L_ X_ t_ q_ => XS.ifNo X_.here C.hx rfl (C.d at_147) rfl ((if0 _ _).trans (feq hf1).1) q_) ?_
      refine Go.plain (g' := (mkF m 152 #[.val (.long p0), .second, .val (.long p1), .second, .val (.int p2), .val (.int p3), .val (.int p4), .val (.ref s1), .val (.ref s2), .val (.ref s3), .val (.ref s4), .val (.ref va), .val (.ref vd), .val (.ref old), .unset, .unset, .unset, .unset, .unset, .unset] [(.int p3)])) (fun T_ L_ X_ t_ q_ => XS.iload X_.here C.hx rfl (C.d at_150) rfl q_) ?_
      refine Go.plain (g' := (mkF m 153 #[.val (.long p0), .second, .val (.long p1), .second, .val (.int p2), .val (.int p3), .val (.int p4), .val (.ref s1), .val (.ref s2), .val (.ref s3), .val (.ref s4), .val (.ref va), .val (.ref vd), .val (.ref old), .unset, .unset, .unset, .unset, .unset, .unset] [(.long (p3.toInt64))])) (fun T_ L_ X_ t_ q_ => XS.i2l X_.here C.hx rfl (C.d at_152) rfl q_) ?_
      refine Go.plain (g' := (mkF m 154 #[.val (.long p0), .second, .val (.long p1), .second, .val (.int p2), .val (.int p3), .val (.int p4), .val (.ref s1), .val (.ref s2), .val (.ref s3), .val (.ref s4), .val (.ref va), .val (.ref vd), .val (.ref old), .unset, .unset, .unset, .unset, .unset, .unset] [(.int (0 : Int32)), (.long (p3.toInt64))])) (fun T_ L_ X_ t_ q_ => XS.iconst X_.here C.hx rfl (C.d at_153) q_) ?_
      refine Go.static C (P_ch l Z a0 hw (p3.toInt64) (0 : Int32) hj) (hw _ (List.mem_of_getElem? (i := 0) rfl)) (hw _ (List.mem_of_getElem? (i := 1) rfl)) (hw _ (List.mem_of_getElem? (i := 2) rfl)) (hw _ (List.mem_of_getElem? (i := 3) rfl)) (by decide) pd_8 (argsL := [(.long (p3.toInt64)), (.int (0 : Int32))]) (rest := []) rfl rfl at_154 (pc' := 157) rfl rfl rfl (W := 0) (Nat.le_of_eq rfl) (by decide) (by decide) (k' := 16) (n' := 43) rfl rfl (by decide) (by decide) ?_
      rintro _ _ ⟨rfl, rfl⟩
      show Go p l e room_1 s m #[(.long p0), (.long p1), (.int p2), (.int p3), (.int p4)] below meth c Z (fun v h => v = some (.int (1 : Int32))) hj 16 43 (mkF m 157 #[.val (.long p0), .second, .val (.long p1), .second, .val (.int p2), .val (.int p3), .val (.int p4), .val (.ref s1), .val (.ref s2), .val (.ref s3), .val (.ref s4), .val (.ref va), .val (.ref vd), .val (.ref old), .unset, .unset, .unset, .unset, .unset, .unset] [(.int (chv (p3.toInt64) (0 : Int32)))])
      have r10 := chv_rng (p3.toInt64) (0 : Int32)
      generalize chv (p3.toInt64) (0 : Int32) = c10 at r10 ⊢
      refine Go.static C (P_vof l Z a0 hw c10 zc hj r10 S0 hz) (hw _ (List.mem_of_getElem? (i := 150) rfl)) (hw _ (List.mem_of_getElem? (i := 151) rfl)) (hw _ (List.mem_of_getElem? (i := 11) rfl)) (hw _ (List.mem_of_getElem? (i := 152) rfl)) (by decide) pd_17 (argsL := [(.int c10)]) (rest := []) rfl rfl at_157 (pc' := 160) rfl rfl rfl (W := 0) (Nat.le_of_eq rfl) (by decide) (by decide) (k' := 18) (n' := 48) rfl rfl (by decide) (by decide) ?_
      rintro _ h13 ⟨sv, rfl, z_sv, X_sv, E_sv⟩
      show Go p l e room_1 s m #[(.long p0), (.long p1), (.int p2), (.int p3), (.int p4)] below meth c Z (fun v h => v = some (.int (1 : Int32))) h13 18 48 (mkF m 160 #[.val (.long p0), .second, .val (.long p1), .second, .val (.int p2), .val (.int p3), .val (.int p4), .val (.ref s1), .val (.ref s2), .val (.ref s3), .val (.ref s4), .val (.ref va), .val (.ref vd), .val (.ref old), .unset, .unset, .unset, .unset, .unset, .unset] [(.ref sv)])
      have E_s1 := E_s1.ext X_sv
      have E_s2 := E_s2.ext X_sv
      have E_s3 := E_s3.ext X_sv
      have E_s4 := E_s4.ext X_sv
      refine Go.plain (g' := (mkF m 162 #[.val (.long p0), .second, .val (.long p1), .second, .val (.int p2), .val (.int p3), .val (.int p4), .val (.ref s1), .val (.ref s2), .val (.ref s3), .val (.ref s4), .val (.ref va), .val (.ref vd), .val (.ref old), .val (.ref sv), .unset, .unset, .unset, .unset, .unset] [])) (fun T_ L_ X_ t_ q_ => XS.astore X_.here C.hx rfl (C.d at_160) rfl rfl (l' := #[.val (.long p0), .second, .val (.long p1), .second, .val (.int p2), .val (.int p3), .val (.int p4), .val (.ref s1), .val (.ref s2), .val (.ref s3), .val (.ref s4), .val (.ref va), .val (.ref vd), .val (.ref old), .val (.ref sv), .unset, .unset, .unset, .unset, .unset]) rfl q_) ?_
      refine Go.plain (g' := (mkF m 186 #[.val (.long p0), .second, .val (.long p1), .second, .val (.int p2), .val (.int p3), .val (.int p4), .val (.ref s1), .val (.ref s2), .val (.ref s3), .val (.ref s4), .val (.ref va), .val (.ref vd), .val (.ref old), .val (.ref sv), .unset, .unset, .unset, .unset, .unset] [])) (fun T_ L_ X_ t_ q_ => XS.goto X_.here C.hx rfl (pc0 := 162) (pc' := 186) rfl (C.d at_162) (by decide) (by decide) q_) ?_
      exact Go.more (by decide) (by decide) (J186 _ _ _ E_s1 E_s2 E_s3 E_s4 E_sv)
  refine Go.plain (g' := (mkF m 116 #[.val (.long p0), .second, .val (.long p1), .second, .val (.int p2), .val (.int p3), .val (.int p4), .val (.ref s1), .val (.ref s2), .val (.ref s3), .val (.ref s4), .val (.ref va), .val (.ref vd), .unset, .unset, .unset, .unset, .unset, .unset, .unset] [(.int p4)])) (fun T_ L_ X_ t_ q_ => XS.iload X_.here C.hx rfl (C.d at_114) rfl q_) ?_
  refine Go.plain (g' := (mkF m 117 #[.val (.long p0), .second, .val (.long p1), .second, .val (.int p2), .val (.int p3), .val (.int p4), .val (.ref s1), .val (.ref s2), .val (.ref s3), .val (.ref s4), .val (.ref va), .val (.ref vd), .unset, .unset, .unset, .unset, .unset, .unset, .unset] [(.int (2 : Int32)), (.int p4)])) (fun T_ L_ X_ t_ q_ => XS.iconst X_.here C.hx rfl (C.d at_116) q_) ?_
  refine Go.plain (g' := (mkF m 118 #[.val (.long p0), .second, .val (.long p1), .second, .val (.int p2), .val (.int p3), .val (.int p4), .val (.ref s1), .val (.ref s2), .val (.ref s3), .val (.ref s4), .val (.ref va), .val (.ref vd), .unset, .unset, .unset, .unset, .unset, .unset, .unset] [(.int (p4 &&& (2 : Int32)))])) (fun T_ L_ X_ t_ q_ => XS.iand X_.here C.hx rfl (C.d at_117) rfl q_) ?_
  by_cases hf2 : (p4 &&& (2 : Int32)) = (0 : Int32)
  · refine Go.plain (g' := (mkF m 138 #[.val (.long p0), .second, .val (.long p1), .second, .val (.int p2), .val (.int p3), .val (.int p4), .val (.ref s1), .val (.ref s2), .val (.ref s3), .val (.ref s4), .val (.ref va), .val (.ref vd), .unset, .unset, .unset, .unset, .unset, .unset, .unset] [])) (fun T_ L_ X_ t_ q_ => XS.ifYes X_.here C.hx rfl (pc0 := 118) (pc' := 138) rfl (C.d at_118) rfl ((if0 _ _).trans (teq hf2).1) (by decide) (by decide) q_) ?_
    refine Go.static C (P_opem l Z a0 hw em h10 SE) (hw _ (List.mem_of_getElem? (i := 53) rfl)) (hw _ (List.mem_of_getElem? (i := 54) rfl)) (hw _ (List.mem_of_getElem? (i := 55) rfl)) (hw _ (List.mem_of_getElem? (i := 56) rfl)) (by decide) pd_11 (argsL := []) (rest := []) rfl rfl at_138 (pc' := 141) rfl rfl rfl (W := 0) (Nat.le_of_eq rfl) (by decide) (by decide) (k' := 13) (n' := 37) rfl rfl (by decide) (by decide) ?_
    rintro _ _ ⟨rfl, rfl⟩
    show Go p l e room_1 s m #[(.long p0), (.long p1), (.int p2), (.int p3), (.int p4)] below meth c Z (fun v h => v = some (.int (1 : Int32))) h10 13 37 (mkF m 141 #[.val (.long p0), .second, .val (.long p1), .second, .val (.int p2), .val (.int p3), .val (.int p4), .val (.ref s1), .val (.ref s2), .val (.ref s3), .val (.ref s4), .val (.ref va), .val (.ref vd), .unset, .unset, .unset, .unset, .unset, .unset, .unset] [(.ref em)])
    refine Go.plain (g' := (mkF m 143 #[.val (.long p0), .second, .val (.long p1), .second, .val (.int p2), .val (.int p3), .val (.int p4), .val (.ref s1), .val (.ref s2), .val (.ref s3), .val (.ref s4), .val (.ref va), .val (.ref vd), .val (.ref em), .unset, .unset, .unset, .unset, .unset, .unset] [])) (fun T_ L_ X_ t_ q_ => XS.astore X_.here C.hx rfl (C.d at_141) rfl rfl (l' := #[.val (.long p0), .second, .val (.long p1), .second, .val (.int p2), .val (.int p3), .val (.int p4), .val (.ref s1), .val (.ref s2), .val (.ref s3), .val (.ref s4), .val (.ref va), .val (.ref vd), .val (.ref em), .unset, .unset, .unset, .unset, .unset, .unset]) rfl q_) ?_
    exact Go.more (by decide) (by decide) (J143 _ _ E_s1 E_s2 E_s3 E_s4)
  · refine Go.plain (g' := (mkF m 121 #[.val (.long p0), .second, .val (.long p1), .second, .val (.int p2), .val (.int p3), .val (.int p4), .val (.ref s1), .val (.ref s2), .val (.ref s3), .val (.ref s4), .val (.ref va), .val (.ref vd), .unset, .unset, .unset, .unset, .unset, .unset, .unset] [])) (fun T_ L_ X_ t_ q_ => XS.ifNo X_.here C.hx rfl (C.d at_118) rfl ((if0 _ _).trans (feq hf2).1) q_) ?_
    refine Go.plain (g' := (mkF m 122 #[.val (.long p0), .second, .val (.long p1), .second, .val (.int p2), .val (.int p3), .val (.int p4), .val (.ref s1), .val (.ref s2), .val (.ref s3), .val (.ref s4), .val (.ref va), .val (.ref vd), .unset, .unset, .unset, .unset, .unset, .unset, .unset] [(.long p1)])) (fun T_ L_ X_ t_ q_ => XS.lloadN X_.here C.hx rfl (C.d at_121) rfl q_) ?_
    refine Go.plain (g' := (mkF m 124 #[.val (.long p0), .second, .val (.long p1), .second, .val (.int p2), .val (.int p3), .val (.int p4), .val (.ref s1), .val (.ref s2), .val (.ref s3), .val (.ref s4), .val (.ref va), .val (.ref vd), .unset, .unset, .unset, .unset, .unset, .unset, .unset] [(.int (16 : Int32)), (.long p1)])) (fun T_ L_ X_ t_ q_ => XS.bipush X_.here C.hx rfl (C.d at_122) q_) ?_
    refine Go.static C (P_ch l Z a0 hw p1 (16 : Int32) h10) (hw _ (List.mem_of_getElem? (i := 0) rfl)) (hw _ (List.mem_of_getElem? (i := 1) rfl)) (hw _ (List.mem_of_getElem? (i := 2) rfl)) (hw _ (List.mem_of_getElem? (i := 3) rfl)) (by decide) pd_8 (argsL := [(.long p1), (.int (16 : Int32))]) (rest := []) rfl rfl at_124 (pc' := 127) rfl rfl rfl (W := 0) (Nat.le_of_eq rfl) (by decide) (by decide) (k' := 13) (n' := 37) rfl rfl (by decide) (by decide) ?_
    rintro _ _ ⟨rfl, rfl⟩
    show Go p l e room_1 s m #[(.long p0), (.long p1), (.int p2), (.int p3), (.int p4)] below meth c Z (fun v h => v = some (.int (1 : Int32))) h10 13 37 (mkF m 127 #[.val (.long p0), .second, .val (.long p1), .second, .val (.int p2), .val (.int p3), .val (.int p4), .val (.ref s1), .val (.ref s2), .val (.ref s3), .val (.ref s4), .val (.ref va), .val (.ref vd), .unset, .unset, .unset, .unset, .unset, .unset, .unset] [(.int (chv p1 (16 : Int32)))])
    have r11 := chv_rng p1 (16 : Int32)
    generalize chv p1 (16 : Int32) = c11 at r11 ⊢
    refine Go.static C (P_vof l Z a0 hw c11 zc h10 r11 S0 hz) (hw _ (List.mem_of_getElem? (i := 150) rfl)) (hw _ (List.mem_of_getElem? (i := 151) rfl)) (hw _ (List.mem_of_getElem? (i := 11) rfl)) (hw _ (List.mem_of_getElem? (i := 152) rfl)) (by decide) pd_17 (argsL := [(.int c11)]) (rest := []) rfl rfl at_127 (pc' := 130) rfl rfl rfl (W := 0) (Nat.le_of_eq rfl) (by decide) (by decide) (k' := 15) (n' := 42) rfl rfl (by decide) (by decide) ?_
    rintro _ h14 ⟨so, rfl, z_so, X_so, -⟩
    show Go p l e room_1 s m #[(.long p0), (.long p1), (.int p2), (.int p3), (.int p4)] below meth c Z (fun v h => v = some (.int (1 : Int32))) h14 15 42 (mkF m 130 #[.val (.long p0), .second, .val (.long p1), .second, .val (.int p2), .val (.int p3), .val (.int p4), .val (.ref s1), .val (.ref s2), .val (.ref s3), .val (.ref s4), .val (.ref va), .val (.ref vd), .unset, .unset, .unset, .unset, .unset, .unset, .unset] [(.ref so)])
    have E_s1 := E_s1.ext X_so
    have E_s2 := E_s2.ext X_so
    have E_s3 := E_s3.ext X_so
    have E_s4 := E_s4.ext X_so
    refine Go.static C (P_opof l Z a0 hw so h14) (hw _ (List.mem_of_getElem? (i := 164) rfl)) (hw _ (List.mem_of_getElem? (i := 89) rfl)) (hw _ (List.mem_of_getElem? (i := 55) rfl)) (hw _ (List.mem_of_getElem? (i := 90) rfl)) (by decide) pd_6 (argsL := [(.ref so)]) (rest := []) rfl rfl at_130 (pc' := 133) rfl rfl rfl (W := 0) (Nat.le_of_eq rfl) (by decide) (by decide) (k' := 16) (n' := 43) rfl rfl (by decide) (by decide) ?_
    rintro _ h15 ⟨old, rfl, z_old, X_old, -, -⟩
    show Go p l e room_1 s m #[(.long p0), (.long p1), (.int p2), (.int p3), (.int p4)] below meth c Z (fun v h => v = some (.int (1 : Int32))) h15 16 43 (mkF m 133 #[.val (.long p0), .second, .val (.long p1), .second, .val (.int p2), .val (.int p3), .val (.int p4), .val (.ref s1), .val (.ref s2), .val (.ref s3), .val (.ref s4), .val (.ref va), .val (.ref vd), .unset, .unset, .unset, .unset, .unset, .unset, .unset] [(.ref old)])
    have E_s1 := E_s1.ext X_old
    have E_s2 := E_s2.ext X_old
    have E_s3 := E_s3.ext X_old
    have E_s4 := E_s4.ext X_old
    refine Go.plain (g' := (mkF m 135 #[.val (.long p0), .second, .val (.long p1), .second, .val (.int p2), .val (.int p3), .val (.int p4), .val (.ref s1), .val (.ref s2), .val (.ref s3), .val (.ref s4), .val (.ref va), .val (.ref vd), .val (.ref old), .unset, .unset, .unset, .unset, .unset, .unset] [])) (fun T_ L_ X_ t_ q_ => XS.astore X_.here C.hx rfl (C.d at_133) rfl rfl (l' := #[.val (.long p0), .second, .val (.long p1), .second, .val (.int p2), .val (.int p3), .val (.int p4), .val (.ref s1), .val (.ref s2), .val (.ref s3), .val (.ref s4), .val (.ref va), .val (.ref vd), .val (.ref old), .unset, .unset, .unset, .unset, .unset, .unset]) rfl q_) ?_
    refine Go.plain (g' := (mkF m 143 #[.val (.long p0), .second, .val (.long p1), .second, .val (.int p2), .val (.int p3), .val (.int p4), .val (.ref s1), .val (.ref s2), .val (.ref s3), .val (.ref s4), .val (.ref va), .val (.ref vd), .val (.ref old), .unset, .unset, .unset, .unset, .unset, .unset] [])) (fun T_ L_ X_ t_ q_ => XS.goto X_.here C.hx rfl (pc0 := 135) (pc' := 143) rfl (C.d at_135) (by decide) (by decide) q_) ?_
    exact Go.more (by decide) (by decide) (J143 _ _ E_s1 E_s2 E_s3 E_s4)
set_option maxRecDepth 65536 in
set_option maxHeartbeats 40000000 in
theorem comes_1 {Post : Tables → Env → Array Value → State → Outcome → State → Prop} (hpost : ∀ tb e args s v u, (limb_1_1.after args s (.returned v) u = true ∧ limb_1_2.after args s (.returned v) u = true ∧ True) → FrameEnd s (.returned v) u (Jvm.fieldLocs frame_1_writes args s ++ Jvm.arrayLocs frame_1_arrays args s ++ Jvm.staticLocs frame_1_statics s) 56 192 → Post tb e args s (.returned v) u) :
    ArmFor flags0 classFile x code maxLocals ret World_1 tables_1 room_1 Calls_1 rest_1 Pre_1 Post := by
  intro l hfl _ _ p e ha hc hk s m args below hf hA hF happ hP
  obtain ⟨hcalls, hrest, hpre⟩ := hP
  obtain ⟨-, -, -, hnamed, -, -, -, hat⟩ := (Spec.applies_iff hf).mp happ
  obtain ⟨hg, hn⟩ := and_e (Cond.before_iff.mp (show (Jvm.Cond.and given_1 narrow_1).before args s = true from hpre))
  obtain ⟨gg0, hg⟩ := and_e hg
  obtain ⟨gg1, hg⟩ := and_e hg
  obtain ⟨gg2, hg⟩ := and_e hg
  obtain ⟨gg3, hg⟩ := and_e hg
  obtain ⟨gg4, hg⟩ := and_e hg
  have gg5 := hg
  obtain ⟨w0, w1, w2, w3, w4, rfl⟩ : ∃ w0 w1 w2 w3 w4 : Value, args = #[w0, w1, w2, w3, w4] := by
    have hs : args.size = 5 := by simpa [Cond.value, given_1] using gg0
    obtain ⟨L⟩ := args
    match L, hs with
    | [w0, w1, w2, w3, w4], _ => exact ⟨w0, w1, w2, w3, w4, rfl⟩
  have hw := fun d (hd : d ∈ tables_1) => atoms_spec (ws := Jvm.Cond.code x code maxLocals ret :: tables_1) hat d (List.mem_cons_of_mem _ hd)
  obtain ⟨hsets, hown0⟩ := atoms_of _ (rest_1_c_eq ▸ (show rest_1_c.before _ s = true from hrest))
  obtain ⟨i0, ei0⟩ := isL_v gg1
  obtain rfl : w0 = (.long i0) := Option.some.inj ei0
  obtain ⟨i1, ei1⟩ := isL_v gg2
  obtain rfl : w1 = (.long i1) := Option.some.inj ei1
  obtain ⟨i2, ei2⟩ := is_v gg3
  obtain rfl : w2 = (.int i2) := Option.some.inj ei2
  obtain ⟨i3, ei3⟩ := is_v gg4
  obtain rfl : w3 = (.int i3) := Option.some.inj ei3
  obtain ⟨i4, ei4⟩ := is_v gg5
  obtain rfl : w4 = (.int i4) := Option.some.inj ei4
  have n3 := not_v (Cond.before_iff.mp (hsets _ (List.mem_of_getElem? (i := 2) rfl)))
  obtain ⟨zc, ez⟩ := is_v (Cond.before_iff.mp (hsets _ (List.mem_of_getElem? (i := 1) rfl)))
  have S0 := Sta.start ez (Or.inl (hsets _ (List.mem_of_getElem? (i := 0) rfl)))
  have hz : ¬ zc = 0 := gotF (eq_I0 ez) n3
  have xe := Cond.before_iff.mp (hsets _ (List.mem_of_getElem? (i := 11) rfl))
  obtain ⟨em, ev⟩ := exa_v xe
  have SE := Sta.start ev (Or.inl (hsets _ (List.mem_of_getElem? (i := 10) rfl)))
  obtain ⟨x0, hn⟩ := and_e hn
  obtain ⟨e0, ev0⟩ := exa_v x0
  have AV0 := Exa.start ev0 x0
  have SV0 := Sta.start ev0 (Or.inr ⟨(hw _ (List.mem_of_getElem? (i := 41) rfl)), (hw _ (List.mem_of_getElem? (i := 42) rfl))⟩)
  obtain ⟨x1, hn⟩ := and_e hn
  obtain ⟨e1, ev1⟩ := exa_v x1
  have AV1 := Exa.start ev1 x1
  have SV1 := Sta.start ev1 (Or.inr ⟨(hw _ (List.mem_of_getElem? (i := 41) rfl)), (hw _ (List.mem_of_getElem? (i := 45) rfl))⟩)
  obtain ⟨x2, hn⟩ := and_e hn
  obtain ⟨e2, ev2⟩ := exa_v x2
  have AV2 := Exa.start ev2 x2
  have SV2 := Sta.start ev2 (Or.inr ⟨(hw _ (List.mem_of_getElem? (i := 41) rfl)), (hw _ (List.mem_of_getElem? (i := 47) rfl))⟩)
  obtain ⟨x3, hn⟩ := and_e hn
  obtain ⟨e3, ev3⟩ := exa_v x3
  have AV3 := Exa.start ev3 x3
  have SV3 := Sta.start ev3 (Or.inr ⟨(hw _ (List.mem_of_getElem? (i := 41) rfl)), (hw _ (List.mem_of_getElem? (i := 49) rfl))⟩)
  have x4 := hn
  obtain ⟨e4, ev4⟩ := exa_v x4
  have AV4 := Exa.start ev4 x4
  have SV4 := Sta.start ev4 (Or.inr ⟨(hw _ (List.mem_of_getElem? (i := 41) rfl)), (hw _ (List.mem_of_getElem? (i := 51) rfl))⟩)
  obtain ⟨n, o, h1, h2, h3, _, L, rfl, ⟨rfl, -, N⟩, hq⟩ := P_law l s _ hw i0 i1 i2 i3 i4 zc em e0 e1 e2 e3 e4 s.heap S0 hz SE SV0 AV0 SV1 AV1 SV2 AV2 SV3 AV3 SV4 AV4 (ext_refl _) tables_1 p e ha hc hk s m _ below hf ((Spec.applies_iff_loose hf).mp happ).1 ⟨rfl, State.Warmed39.refl s, rfl⟩ trivial
  refine ⟨n, _, h1, h2, h3, hpost _ _ _ _ _ _ ⟨Cond.after_iff.mpr rfl, Cond.after_iff.mpr (eq_i res_at (Term.int_eval (1)) rfl), trivial⟩ ⟨hq.1, hq.2.1, (hq.2.2.sift fun y hy => Or.inr (N y hy)).mono (by decide) (by decide)⟩⟩
theorem main_1_1 : Claimed_1_1 := comes_1 fun _ _ _ _ _ _ h hF => ⟨h.1, hF⟩
theorem main_1_2 : Claimed_1_2 := comes_1 fun _ _ _ _ _ _ h hF => ⟨h.2.1, hF⟩
end Jvm.Pilot.@@N@@
namespace Jvm.Pilot.@@N@@
open Jvm Jvm.ClassFile Sem Op Lib Jvm.Free Jvm.Stand Jvm.Pilot.@@N@@.Jvm.D
/-! MADE BY PROGRAM (witnessworld.py) out of the Statement's table words and the real class files: 26 classes; the members and pool entries that the words name. The judged class is class 1, her method 3. -/
namespace start1
open Jvm.ClassFile
def u (s : String) : CpInfo := .utf8 (stringToUtf16 s)
/-- a pool by its gaps: so many unusable entries, then the entry; so many at the end -/
def gap : Nat → List CpInfo → List CpInfo
  | 0, r => r
  | n + 1, r => .unusable :: gap n r
def poolList (es : List (Nat × CpInfo)) (last : Nat) : List CpInfo := es.foldr (fun e r => gap e.1 (e.2 :: r)) (gap last [])
def pool (es : List (Nat × CpInfo)) (last : Nat) : Array CpInfo := ⟨poolList es last⟩
def fileOf (pool : Array CpInfo) (this : Nat) (attrs : Array Attribute := #[]) (ms : Array MethodInfo := #[]) (fl : Nat := 33) (sup : Nat := 0) (ifs : Array Nat := #[]) (fds : Array FieldInfo := #[]) : ClassFile where
  minorVersion := 0
  majorVersion := 65
  constantPool := pool
  accessFlags := fl
  thisClass := this
  superClass := sup
  interfaces := ifs
  fields := fds
  methods := ms
  attributes := attrs
def plain (name : String) (sup : Option ClassId) : Class where
  name := name
  kind := .ordinary
  loader := none
  accessFlags := 33
  super := sup
  interfaces := #[]
  cf := none
  fields := #[]
  methods := #[]
  instanceTypes := #[]
  staticTypes := #[]
  resolved := #[]
  callSites := []
  init := .initialized
  statics := none
  mirror := none

def pool0 : Array CpInfo := pool [(5, u "<init>"), (0, u "()V"), (1, .class_ 10), (1, u "java/lang/Object")] 113

def k0c0 : Code := { maxStack := 0, maxLocals := 1, code := object_method_1_code, exceptionTable := #[], attributes := #[] }
def k0m0 : Method := { name := "<init>", desc := "()V", sig := { parameters := [], returnType := none }, accessFlags := 1, code := some k0c0 }
/-- java/lang/Object -/
def k0 : Class := { plain "java/lang/Object" none with
  accessFlags := 33
  interfaces := #[]
  cf := some (fileOf pool0 8 #[] #[{ accessFlags := 1, nameIndex := 5, descriptorIndex := 6, attributes := #[] }] 33 0 #[] #[])
  fields := #[]
  methods := #[k0m0]
  instanceTypes := #[]
  staticTypes := #[]
  resolved := Array.replicate 124 none
  statics := none }

def pool1 : Array CpInfo := pool [(2, .class_ 4), (1, u "java/lang/Object"), (0, u "<init>"), (0, u "()V"), (0, .long 255), (1, .class_ 10), (0, u "java/lang/String"), (0, .methodref 9 12), (0, .nameAndType 5 13), (0, u "([C)V"), (0, .methodref 15 16), (0, .class_ 17), (0, .nameAndType 18 19), (0, u "com/example/tejuelo/tejuelo/core/FindingAboutPinLaw"), (0, u "ch"), (0, u "(JI)C"), (0, .methodref 15 21), (0, .nameAndType 22 23), (0, u "two"), (0, u "(CC)Ljava/lang/String;"), (0, .class_ 25), (0, u "com/example/tejuelo/tejuelo/core/Verdict"), (0, .fieldref 24 27), (0, .nameAndType 28 29), (0, u "REJECTED"), (0, u "Lcom/example/tejuelo/tejuelo/core/Verdict;"), (0, .fieldref 24 31), (0, .nameAndType 32 29), (0, u "NOT_HARVESTED"), (0, .fieldref 24 34), (0, .nameAndType 35 29), (0, u "INCOMPLETE"), (0, .fieldref 24 37), (0, .nameAndType 38 29), (0, u "ACCEPTED"), (0, .fieldref 24 40), (0, .nameAndType 41 29), (0, u "DELETED"), (0, .integer 2147483647), (0, .methodref 9 44), (0, .nameAndType 45 46), (0, u "valueOf"), (0, u "(C)Ljava/lang/String;"), (0, .methodref 48 49), (0, .class_ 50), (0, .nameAndType 51 52), (0, u "java/util/Optional"), (0, u "of"), (0, u "(Ljava/lang/Object;)Ljava/util/Optional;"), (0, .methodref 48 54), (0, .nameAndType 55 56), (0, u "empty"), (0, u "()Ljava/util/Optional;"), (0, .class_ 58), (0, u "com/example/tejuelo/tejuelo/core/Finding"), (0, .methodref 57 60), (0, .nameAndType 5 61), (0, u "(Ljava/lang/String;Ljava/lang/String;Ljava/lang/String;Ljava/lang/String;Lcom/example/tejuelo/tejuelo/core/Verdict;Ljava/util/Optional;)V"), (0, .methodref 57 63), (0, .nameAndType 64 65), (0, u "about"), (0, u "(Ljava/lang/CharSequence;)Lcom/example/tejuelo/tejuelo/core/Finding;"), (0, .methodref 57 67), (0, .nameAndType 68 56), (0, u "value"), (0, .methodref 57 70), (0, .nameAndType 71 72), (0, u "code"), (0, u "()Ljava/lang/String;"), (0, .methodref 9 74), (0, .nameAndType 75 76), (0, u "equals"), (0, u "(Ljava/lang/Object;)Z"), (0, .methodref 57 78), (0, .nameAndType 79 72), (0, u "field"), (0, .methodref 57 81), (0, .nameAndType 82 72), (0, u "message"), (0, .methodref 57 84), (0, .nameAndType 85 72), (0, u "clause"), (0, .methodref 57 87), (0, .nameAndType 88 89), (0, u "verdict"), (0, u "()Lcom/example/tejuelo/tejuelo/core/Verdict;"), (0, .methodref 48 91), (0, .nameAndType 92 93), (0, u "isPresent"), (0, u "()Z"), (0, .methodref 48 95), (0, .nameAndType 96 97), (0, u "get"), (0, u "()Ljava/lang/Object;"), (2, u "law"), (0, u "(JJIII)Z")] 5

def k1m0 : Method := { name := "<init>", desc := "()V", sig := { parameters := [], returnType := none }, accessFlags := 1, code := none }
def k1c1 : Code := { maxStack := 4, maxLocals := 3, code := method_2_code, exceptionTable := #[], attributes := #[] }
def k1m1 : Method := { name := "ch", desc := "(JI)C", sig := { parameters := [.long, .int], returnType := some .char }, accessFlags := 10, code := some k1c1 }
def k1c2 : Code := { maxStack := 3, maxLocals := 3, code := method_3_code, exceptionTable := #[], attributes := #[] }
def k1m2 : Method := { name := "two", desc := "(CC)Ljava/lang/String;", sig := { parameters := [.char, .char], returnType := some (.object "java/lang/String") }, accessFlags := 10, code := some k1c2 }
def k1c3 : Code := { maxStack := 8, maxLocals := 20, code := code, exceptionTable := #[], attributes := #[] }
def k1m3 : Method := { name := "law", desc := "(JJIII)Z", sig := { parameters := [.long, .long, .int, .int, .int], returnType := some .boolean }, accessFlags := 9, code := some k1c3 }
/-- com/example/tejuelo/tejuelo/core/FindingAboutPinLaw -/
def k1 : Class := { plain "com/example/tejuelo/tejuelo/core/FindingAboutPinLaw" (some 0) with
  accessFlags := 49
  interfaces := #[]
  cf := some (fileOf pool1 15 #[] #[{ accessFlags := 1, nameIndex := 5, descriptorIndex := 6, attributes := #[] }, { accessFlags := 10, nameIndex := 18, descriptorIndex := 19, attributes := #[] }, { accessFlags := 10, nameIndex := 22, descriptorIndex := 23, attributes := #[] }, { accessFlags := 9, nameIndex := 100, descriptorIndex := 101, attributes := #[] }] 49 2 #[] #[])
  fields := #[]
  methods := #[k1m0, k1m1, k1m2, k1m3]
  instanceTypes := #[]
  staticTypes := #[]
  resolved := Array.replicate 107 none
  statics := none }

def pool2 : Array CpInfo := pool [(1, .class_ 2), (0, u "java/io/Serializable"), (0, .class_ 4), (0, u "java/lang/Object")] 2

/-- java/io/Serializable -/
def k2 : Class := { plain "java/io/Serializable" (some 0) with
  accessFlags := 1537
  interfaces := #[]
  cf := some (fileOf pool2 1 #[] #[] 1537 3 #[] #[])
  fields := #[]
  methods := #[]
  instanceTypes := #[]
  staticTypes := #[]
  resolved := Array.replicate 7 none
  statics := none }

def pool3 : Array CpInfo := pool [(1, .class_ 2), (0, u "java/lang/Comparable"), (0, .class_ 4), (0, u "java/lang/Object")] 7

/-- java/lang/Comparable -/
def k3 : Class := { plain "java/lang/Comparable" (some 0) with
  accessFlags := 1537
  interfaces := #[]
  cf := some (fileOf pool3 1 #[] #[] 1537 3 #[] #[])
  fields := #[]
  methods := #[]
  instanceTypes := #[]
  staticTypes := #[]
  resolved := Array.replicate 12 none
  statics := none }

def pool4 : Array CpInfo := pool [(2, .class_ 4), (1, u "java/lang/CharSequence"), (42, .class_ 48), (0, u "java/lang/CharSequence$1CodePointIterator"), (10, .class_ 60), (0, u "java/lang/CharSequence$1CharIterator"), (5, .class_ 67), (0, u "java/lang/Object")] 63

/-- java/lang/CharSequence -/
def k4 : Class := { plain "java/lang/CharSequence" (some 0) with
  accessFlags := 1537
  interfaces := #[]
  cf := some (fileOf pool4 2 #[.nestMembers #[47, 59]] #[] 1537 66 #[] #[])
  fields := #[]
  methods := #[]
  instanceTypes := #[]
  staticTypes := #[]
  resolved := Array.replicate 131 none
  statics := none }

def pool5 : Array CpInfo := pool [(1, .class_ 2), (0, u "java/lang/constant/Constable"), (0, .class_ 4), (0, u "java/lang/Object")] 6

/-- java/lang/constant/Constable -/
def k5 : Class := { plain "java/lang/constant/Constable" (some 0) with
  accessFlags := 1537
  interfaces := #[]
  cf := some (fileOf pool5 1 #[] #[] 1537 3 #[] #[])
  fields := #[]
  methods := #[]
  instanceTypes := #[]
  staticTypes := #[]
  resolved := Array.replicate 11 none
  statics := none }

def pool6 : Array CpInfo := pool [(1, .class_ 2), (0, u "java/lang/constant/ConstantDesc"), (0, .class_ 4), (0, u "java/lang/Object")] 32

/-- java/lang/constant/ConstantDesc -/
def k6 : Class := { plain "java/lang/constant/ConstantDesc" (some 0) with
  accessFlags := 1537
  interfaces := #[]
  cf := some (fileOf pool6 1 #[] #[] 1537 3 #[] #[])
  fields := #[]
  methods := #[]
  instanceTypes := #[]
  staticTypes := #[]
  resolved := Array.replicate 37 none
  statics := none }

def pool7 : Array CpInfo := pool [(1, .methodref 2 3), (0, .class_ 4), (0, .nameAndType 5 6), (0, u "java/lang/Object"), (0, u "<init>"), (0, u "()V"), (2, .fieldref 10 11), (0, .class_ 12), (0, .nameAndType 13 14), (0, u "java/lang/String"), (0, u "value"), (0, u "[B"), (0, .fieldref 10 16), (0, .nameAndType 17 18), (0, u "coder"), (0, u "B"), (2, u "hash"), (0, u "I"), (2, u "hashIsZero"), (0, u "Z"), (0, .methodref 10 28), (0, .nameAndType 5 29), (0, u "([CIILjava/lang/Void;)V"), (8, .fieldref 10 39), (0, .nameAndType 40 26), (0, u "COMPACT_STRINGS"), (1, .class_ 44), (1, u "java/lang/StringUTF16"), (0, u "compress"), (1, .methodref 42 48), (0, .nameAndType 49 50), (0, u "coderFromArrayLen"), (0, u "([BI)B"), (2, u "toBytes"), (53, .class_ 109), (1, u "java/lang/StringLatin1"), (67, .methodref 42 178), (0, .nameAndType 45 179), (0, u "([CII)[B"), (29, .methodref 10 210), (0, .nameAndType 5 211), (0, u "([BB)V"), (157, u "(C)Z"), (173, u "equals"), (29, u "(Ljava/lang/Object;)Z"), (1, .class_ 576), (0, u "java/lang/CharSequence"), (22, u "CASE_INSENSITIVE_ORDER"), (0, u "Ljava/util/Comparator;"), (181, u "valueOf"), (0, u "(C)Ljava/lang/String;"), (226, u "([C)V"), (4, .methodref 107 1016), (0, .nameAndType 1017 369), (0, u "canEncode"), (0, .methodref 107 1019), (0, .nameAndType 53 1020), (0, u "(C)[B"), (80, u "serialPersistentFields"), (0, u "[Ljava/io/ObjectStreamField;"), (0, .class_ 1104), (0, u "java/lang/String$CaseInsensitiveComparator"), (1, .class_ 1107), (0, u "java/io/Serializable"), (0, .class_ 1109), (0, u "java/lang/Comparable"), (0, .class_ 1111), (0, u "java/lang/constant/Constable"), (0, .class_ 1113), (0, u "java/lang/constant/ConstantDesc"), (2, u "serialVersionUID"), (0, u "J"), (3, u "REPL"), (0, u "C"), (2, u "LATIN1"), (1, u "UTF16")] 323

def k7m0 : Method := { name := "<init>", desc := "()V", sig := { parameters := [], returnType := none }, accessFlags := 1, code := none }
def k7c1 : Code := { maxStack := 5, maxLocals := 2, code := jdk_42_method_3_code, exceptionTable := #[], attributes := #[] }
def k7m1 : Method := { name := "<init>", desc := "([C)V", sig := { parameters := [(.array .char)], returnType := none }, accessFlags := 1, code := some k7c1 }
def k7c2 : Code := { maxStack := 2, maxLocals := 3, code := jdk_42_method_66_code, exceptionTable := #[], attributes := #[] }
def k7m2 : Method := { name := "equals", desc := "(Ljava/lang/Object;)Z", sig := { parameters := [(.object "java/lang/Object")], returnType := some .boolean }, accessFlags := 1, code := some k7c2 }
def k7c3 : Code := { maxStack := 4, maxLocals := 1, code := jdk_42_method_139_code, exceptionTable := #[], attributes := #[] }
def k7m3 : Method := { name := "valueOf", desc := "(C)Ljava/lang/String;", sig := { parameters := [.char], returnType := some (.object "java/lang/String") }, accessFlags := 9, code := some k7c3 }
def k7c4 : Code := { maxStack := 4, maxLocals := 6, code := jdk_42_method_149_code, exceptionTable := #[], attributes := #[] }
def k7m4 : Method := { name := "<init>", desc := "([CIILjava/lang/Void;)V", sig := { parameters := [(.array .char), .int, .int, (.object "java/lang/Void")], returnType := none }, accessFlags := 2, code := some k7c4 }
def k7c5 : Code := { maxStack := 2, maxLocals := 3, code := jdk_42_method_151_code, exceptionTable := #[], attributes := #[] }
def k7m5 : Method := { name := "<init>", desc := "([BB)V", sig := { parameters := [(.array .byte), .byte], returnType := none }, accessFlags := 0, code := some k7c5 }
/-- java/lang/String -/
def k7 : Class := { plain "java/lang/String" (some 0) with
  accessFlags := 49
  interfaces := #[2, 3, 4, 5, 6]
  cf := some (fileOf pool7 10 #[.nestMembers #[1103]] #[{ accessFlags := 1, nameIndex := 5, descriptorIndex := 6, attributes := #[] }, { accessFlags := 1, nameIndex := 5, descriptorIndex := 1010, attributes := #[] }, { accessFlags := 1, nameIndex := 543, descriptorIndex := 573, attributes := #[] }, { accessFlags := 9, nameIndex := 782, descriptorIndex := 783, attributes := #[] }, { accessFlags := 2, nameIndex := 5, descriptorIndex := 29, attributes := #[] }, { accessFlags := 0, nameIndex := 5, descriptorIndex := 211, attributes := #[] }] 49 2 #[1106, 1108, 575, 1110, 1112] #[{ accessFlags := 18, nameIndex := 13, descriptorIndex := 14, attributes := #[] }, { accessFlags := 18, nameIndex := 17, descriptorIndex := 18, attributes := #[] }, { accessFlags := 2, nameIndex := 21, descriptorIndex := 22, attributes := #[] }, { accessFlags := 2, nameIndex := 25, descriptorIndex := 26, attributes := #[] }, { accessFlags := 26, nameIndex := 1116, descriptorIndex := 1117, attributes := #[] }, { accessFlags := 24, nameIndex := 40, descriptorIndex := 26, attributes := #[] }, { accessFlags := 26, nameIndex := 1101, descriptorIndex := 1102, attributes := #[] }, { accessFlags := 26, nameIndex := 1121, descriptorIndex := 1122, attributes := #[] }, { accessFlags := 25, nameIndex := 599, descriptorIndex := 600, attributes := #[] }, { accessFlags := 24, nameIndex := 1125, descriptorIndex := 18, attributes := #[] }, { accessFlags := 24, nameIndex := 1127, descriptorIndex := 18, attributes := #[] }])
  fields := #[{ name := "value", type := (.array .byte), accessFlags := 18, slot := 0, constantValue := 0 }, { name := "coder", type := .byte, accessFlags := 18, slot := 1, constantValue := 0 }, { name := "hash", type := .int, accessFlags := 2, slot := 2, constantValue := 0 }, { name := "hashIsZero", type := .boolean, accessFlags := 2, slot := 3, constantValue := 0 }, { name := "serialVersionUID", type := .long, accessFlags := 26, slot := 0, constantValue := 0 }, { name := "COMPACT_STRINGS", type := .boolean, accessFlags := 24, slot := 1, constantValue := 0 }, { name := "serialPersistentFields", type := (.array (.object "java/io/ObjectStreamField")), accessFlags := 26, slot := 2, constantValue := 0 }, { name := "REPL", type := .char, accessFlags := 26, slot := 3, constantValue := 0 }, { name := "CASE_INSENSITIVE_ORDER", type := (.object "java/util/Comparator"), accessFlags := 25, slot := 4, constantValue := 0 }, { name := "LATIN1", type := .byte, accessFlags := 24, slot := 5, constantValue := 0 }, { name := "UTF16", type := .byte, accessFlags := 24, slot := 6, constantValue := 0 }]
  methods := #[k7m0, k7m1, k7m2, k7m3, k7m4, k7m5]
  instanceTypes := #[(.array .byte), .byte, .int, .boolean]
  staticTypes := #[.long, .boolean, (.array (.object "java/io/ObjectStreamField")), .char, (.object "java/util/Comparator"), .byte, .byte]
  resolved := Array.replicate 1451 none
  statics := some 0 }

def pool8 : Array CpInfo := pool [(6, .class_ 8), (1, u "java/lang/Object"), (0, u "<init>"), (0, u "()V"), (1, .class_ 14), (1, u "java/lang/StringUTF16"), (31, u "$assertionsDisabled"), (0, u "Z"), (13, u "HI_BYTE_SHIFT"), (0, u "I"), (2, u "LO_BYTE_SHIFT"), (49, .methodref 12 116), (0, .nameAndType 117 118), (0, u "compress"), (0, u "([CI[BII)I"), (3, u "([CII)[B"), (138, u "coderFromArrayLen"), (0, u "([BI)B"), (106, .class_ 371), (1, u "java/lang/StringUTF16$LinesSpliterator"), (58, u "MAX_LENGTH"), (196, .class_ 628), (0, u "java/lang/StringUTF16$CodePointsSpliterator"), (0, .class_ 630), (0, u "java/lang/StringUTF16$CharsSpliterator")] 4

def k8m0 : Method := { name := "<init>", desc := "()V", sig := { parameters := [], returnType := none }, accessFlags := 0, code := none }
def k8c1 : Code := { maxStack := 2, maxLocals := 2, code := jdk_52_method_15_code, exceptionTable := #[], attributes := #[] }
def k8m1 : Method := { name := "coderFromArrayLen", desc := "([BI)B", sig := { parameters := [(.array .byte), .int], returnType := some .byte }, accessFlags := 8, code := some k8c1 }
def k8c2 : Code := { maxStack := 5, maxLocals := 6, code := jdk_52_method_16_code, exceptionTable := #[], attributes := #[] }
def k8m2 : Method := { name := "compress", desc := "([CII)[B", sig := { parameters := [(.array .char), .int, .int], returnType := some (.array .byte) }, accessFlags := 9, code := some k8c2 }
def k8c3 : Code := { maxStack := 3, maxLocals := 7, code := jdk_52_method_21_code, exceptionTable := #[], attributes := #[] }
def k8m3 : Method := { name := "compress", desc := "([CI[BII)I", sig := { parameters := [(.array .char), .int, (.array .byte), .int, .int], returnType := some .int }, accessFlags := 9, code := some k8c3 }
/-- java/lang/StringUTF16 -/
def k8 : Class := { plain "java/lang/StringUTF16" (some 0) with
  accessFlags := 48
  interfaces := #[]
  cf := some (fileOf pool8 12 #[.nestMembers #[627, 629, 369]] #[{ accessFlags := 0, nameIndex := 9, descriptorIndex := 10, attributes := #[] }, { accessFlags := 8, nameIndex := 261, descriptorIndex := 262, attributes := #[] }, { accessFlags := 9, nameIndex := 117, descriptorIndex := 122, attributes := #[] }, { accessFlags := 9, nameIndex := 117, descriptorIndex := 118, attributes := #[] }] 48 6 #[] #[{ accessFlags := 26, nameIndex := 61, descriptorIndex := 62, attributes := #[] }, { accessFlags := 26, nameIndex := 65, descriptorIndex := 62, attributes := #[] }, { accessFlags := 24, nameIndex := 430, descriptorIndex := 62, attributes := #[] }, { accessFlags := 4120, nameIndex := 46, descriptorIndex := 47, attributes := #[] }])
  fields := #[{ name := "HI_BYTE_SHIFT", type := .int, accessFlags := 26, slot := 0, constantValue := 0 }, { name := "LO_BYTE_SHIFT", type := .int, accessFlags := 26, slot := 1, constantValue := 0 }, { name := "MAX_LENGTH", type := .int, accessFlags := 24, slot := 2, constantValue := 0 }, { name := "$assertionsDisabled", type := .boolean, accessFlags := 4120, slot := 3, constantValue := 0 }]
  methods := #[k8m0, k8m1, k8m2, k8m3]
  instanceTypes := #[]
  staticTypes := #[.int, .int, .int, .boolean]
  resolved := Array.replicate 635 none
  statics := none }

def pool9 : Array CpInfo := pool [(2, .class_ 4), (1, u "java/lang/Enum"), (0, u "name"), (0, u "Ljava/lang/String;"), (2, u "ordinal"), (0, u "I"), (1, .class_ 14), (1, u "java/lang/Object"), (4, u "hash"), (86, .class_ 108), (1, u "java/lang/Enum$EnumDesc"), (2, .class_ 112), (0, u "java/lang/constant/Constable"), (0, .class_ 114), (0, u "java/lang/Comparable"), (0, .class_ 116), (0, u "java/io/Serializable")] 87

/-- java/lang/Enum -/
def k9 : Class := { plain "java/lang/Enum" (some 0) with
  accessFlags := 1057
  interfaces := #[5, 3, 2]
  cf := some (fileOf pool9 2 #[.nestMembers #[106]] #[] 1057 12 #[111, 113, 115] #[{ accessFlags := 18, nameIndex := 5, descriptorIndex := 6, attributes := #[] }, { accessFlags := 18, nameIndex := 9, descriptorIndex := 10, attributes := #[] }, { accessFlags := 2, nameIndex := 19, descriptorIndex := 10, attributes := #[] }])
  fields := #[{ name := "name", type := (.object "java/lang/String"), accessFlags := 18, slot := 0, constantValue := 0 }, { name := "ordinal", type := .int, accessFlags := 18, slot := 1, constantValue := 0 }, { name := "hash", type := .int, accessFlags := 2, slot := 2, constantValue := 0 }]
  methods := #[]
  instanceTypes := #[(.object "java/lang/String"), .int, .int]
  staticTypes := #[]
  resolved := Array.replicate 204 none
  statics := none }

def pool10 : Array CpInfo := pool [(1, .class_ 2), (0, u "com/example/tejuelo/tejuelo/core/Verdict"), (2, u "REJECTED"), (0, u "Lcom/example/tejuelo/tejuelo/core/Verdict;"), (2, u "NOT_HARVESTED"), (2, u "INCOMPLETE"), (2, u "ACCEPTED"), (2, u "DELETED"), (2, u "$VALUES"), (0, u "[Lcom/example/tejuelo/tejuelo/core/Verdict;"), (6, .class_ 31), (1, u "java/lang/Enum"), (8, u "word"), (0, u "Ljava/lang/String;"), (2, u "plural")] 107

/-- com/example/tejuelo/tejuelo/core/Verdict -/
def k10 : Class := { plain "com/example/tejuelo/tejuelo/core/Verdict" (some 9) with
  accessFlags := 16433
  interfaces := #[]
  cf := some (fileOf pool10 1 #[] #[] 16433 29 #[] #[{ accessFlags := 16409, nameIndex := 5, descriptorIndex := 6, attributes := #[] }, { accessFlags := 16409, nameIndex := 9, descriptorIndex := 6, attributes := #[] }, { accessFlags := 16409, nameIndex := 12, descriptorIndex := 6, attributes := #[] }, { accessFlags := 16409, nameIndex := 15, descriptorIndex := 6, attributes := #[] }, { accessFlags := 16409, nameIndex := 18, descriptorIndex := 6, attributes := #[] }, { accessFlags := 18, nameIndex := 40, descriptorIndex := 41, attributes := #[] }, { accessFlags := 18, nameIndex := 44, descriptorIndex := 41, attributes := #[] }, { accessFlags := 4122, nameIndex := 21, descriptorIndex := 22, attributes := #[] }])
  fields := #[{ name := "REJECTED", type := (.object "com/example/tejuelo/tejuelo/core/Verdict"), accessFlags := 16409, slot := 0, constantValue := 0 }, { name := "NOT_HARVESTED", type := (.object "com/example/tejuelo/tejuelo/core/Verdict"), accessFlags := 16409, slot := 1, constantValue := 0 }, { name := "INCOMPLETE", type := (.object "com/example/tejuelo/tejuelo/core/Verdict"), accessFlags := 16409, slot := 2, constantValue := 0 }, { name := "ACCEPTED", type := (.object "com/example/tejuelo/tejuelo/core/Verdict"), accessFlags := 16409, slot := 3, constantValue := 0 }, { name := "DELETED", type := (.object "com/example/tejuelo/tejuelo/core/Verdict"), accessFlags := 16409, slot := 4, constantValue := 0 }, { name := "word", type := (.object "java/lang/String"), accessFlags := 18, slot := 3, constantValue := 0 }, { name := "plural", type := (.object "java/lang/String"), accessFlags := 18, slot := 4, constantValue := 0 }, { name := "$VALUES", type := (.array (.object "com/example/tejuelo/tejuelo/core/Verdict")), accessFlags := 4122, slot := 5, constantValue := 0 }]
  methods := #[]
  instanceTypes := #[(.object "java/lang/String"), .int, .int, (.object "java/lang/String"), (.object "java/lang/String")]
  staticTypes := #[(.object "com/example/tejuelo/tejuelo/core/Verdict"), (.object "com/example/tejuelo/tejuelo/core/Verdict"), (.object "com/example/tejuelo/tejuelo/core/Verdict"), (.object "com/example/tejuelo/tejuelo/core/Verdict"), (.object "com/example/tejuelo/tejuelo/core/Verdict"), (.array (.object "com/example/tejuelo/tejuelo/core/Verdict"))]
  resolved := Array.replicate 152 none
  statics := some 1 }

def pool11 : Array CpInfo := pool [(1, .fieldref 2 3), (0, .class_ 4), (0, .nameAndType 5 6), (0, u "java/util/Optional"), (0, u "EMPTY"), (0, u "Ljava/util/Optional;"), (0, .methodref 8 9), (0, .class_ 10), (0, .nameAndType 11 12), (0, u "java/lang/Object"), (0, u "<init>"), (0, u "()V"), (0, .fieldref 2 14), (0, .nameAndType 15 16), (0, u "value"), (0, u "Ljava/lang/Object;"), (0, .methodref 18 19), (0, .class_ 20), (0, .nameAndType 21 22), (0, u "java/util/Objects"), (0, u "requireNonNull"), (0, u "(Ljava/lang/Object;)Ljava/lang/Object;"), (0, .methodref 2 24), (0, .nameAndType 11 25), (0, u "(Ljava/lang/Object;)V"), (20, u "()Z"), (8, u "empty"), (0, u "()Ljava/util/Optional;"), (8, u "(Ljava/lang/Object;)Ljava/util/Optional;"), (2, u "isPresent"), (4, u "get"), (0, u "()Ljava/lang/Object;"), (7, u "of")] 104

def k11c0 : Code := { maxStack := 1, maxLocals := 1, code := jdk_32_method_1_code, exceptionTable := #[], attributes := #[] }
def k11m0 : Method := { name := "empty", desc := "()Ljava/util/Optional;", sig := { parameters := [], returnType := some (.object "java/util/Optional") }, accessFlags := 9, code := some k11c0 }
def k11c1 : Code := { maxStack := 2, maxLocals := 2, code := jdk_32_method_2_code, exceptionTable := #[], attributes := #[] }
def k11m1 : Method := { name := "<init>", desc := "(Ljava/lang/Object;)V", sig := { parameters := [(.object "java/lang/Object")], returnType := none }, accessFlags := 2, code := some k11c1 }
def k11c2 : Code := { maxStack := 3, maxLocals := 1, code := jdk_32_method_3_code, exceptionTable := #[], attributes := #[] }
def k11m2 : Method := { name := "of", desc := "(Ljava/lang/Object;)Ljava/util/Optional;", sig := { parameters := [(.object "java/lang/Object")], returnType := some (.object "java/util/Optional") }, accessFlags := 9, code := some k11c2 }
def k11c3 : Code := { maxStack := 3, maxLocals := 1, code := jdk_32_method_5_code, exceptionTable := #[], attributes := #[] }
def k11m3 : Method := { name := "get", desc := "()Ljava/lang/Object;", sig := { parameters := [], returnType := some (.object "java/lang/Object") }, accessFlags := 1, code := some k11c3 }
def k11c4 : Code := { maxStack := 1, maxLocals := 1, code := jdk_32_method_6_code, exceptionTable := #[], attributes := #[] }
def k11m4 : Method := { name := "isPresent", desc := "()Z", sig := { parameters := [], returnType := some .boolean }, accessFlags := 1, code := some k11c4 }
/-- java/util/Optional -/
def k11 : Class := { plain "java/util/Optional" (some 0) with
  accessFlags := 49
  interfaces := #[]
  cf := some (fileOf pool11 2 #[] #[{ accessFlags := 9, nameIndex := 55, descriptorIndex := 56, attributes := #[] }, { accessFlags := 2, nameIndex := 11, descriptorIndex := 25, attributes := #[] }, { accessFlags := 9, nameIndex := 82, descriptorIndex := 65, attributes := #[] }, { accessFlags := 1, nameIndex := 73, descriptorIndex := 74, attributes := #[] }, { accessFlags := 1, nameIndex := 68, descriptorIndex := 46, attributes := #[] }] 49 8 #[] #[{ accessFlags := 26, nameIndex := 5, descriptorIndex := 6, attributes := #[] }, { accessFlags := 18, nameIndex := 15, descriptorIndex := 16, attributes := #[] }])
  fields := #[{ name := "EMPTY", type := (.object "java/util/Optional"), accessFlags := 26, slot := 0, constantValue := 0 }, { name := "value", type := (.object "java/lang/Object"), accessFlags := 18, slot := 0, constantValue := 0 }]
  methods := #[k11m0, k11m1, k11m2, k11m3, k11m4]
  instanceTypes := #[(.object "java/lang/Object")]
  staticTypes := #[(.object "java/util/Optional")]
  resolved := Array.replicate 187 none
  statics := some 2 }

def pool12 : Array CpInfo := pool [(1, .methodref 2 3), (0, .class_ 4), (0, .nameAndType 5 6), (0, u "java/lang/Object"), (0, u "<init>"), (0, u "()V"), (0, .class_ 8), (0, u "java/lang/Record")] 13

def k12c0 : Code := { maxStack := 1, maxLocals := 1, code := jdk_30_method_1_code, exceptionTable := #[], attributes := #[] }
def k12m0 : Method := { name := "<init>", desc := "()V", sig := { parameters := [], returnType := none }, accessFlags := 4, code := some k12c0 }
/-- java/lang/Record -/
def k12 : Class := { plain "java/lang/Record" (some 0) with
  accessFlags := 1057
  interfaces := #[]
  cf := some (fileOf pool12 7 #[] #[{ accessFlags := 4, nameIndex := 5, descriptorIndex := 6, attributes := #[] }] 1057 2 #[] #[])
  fields := #[]
  methods := #[k12m0]
  instanceTypes := #[]
  staticTypes := #[]
  resolved := Array.replicate 22 none
  statics := none }

def pool13 : Array CpInfo := pool [(1, .methodref 2 3), (0, .class_ 4), (0, .nameAndType 5 6), (0, u "java/lang/Record"), (0, u "<init>"), (0, u "()V"), (0, .fieldref 8 9), (0, .class_ 10), (0, .nameAndType 11 12), (0, u "com/example/tejuelo/tejuelo/core/Finding"), (0, u "code"), (0, u "Ljava/lang/String;"), (0, .fieldref 8 14), (0, .nameAndType 15 12), (0, u "field"), (0, .fieldref 8 17), (0, .nameAndType 18 12), (0, u "message"), (0, .fieldref 8 20), (0, .nameAndType 21 12), (0, u "clause"), (0, .fieldref 8 23), (0, .nameAndType 24 25), (0, u "verdict"), (0, u "Lcom/example/tejuelo/tejuelo/core/Verdict;"), (0, .fieldref 8 27), (0, .nameAndType 28 29), (0, u "value"), (0, u "Ljava/util/Optional;"), (0, .methodref 31 32), (0, .class_ 33), (0, .nameAndType 34 35), (0, u "java/util/Optional"), (0, u "of"), (0, u "(Ljava/lang/Object;)Ljava/util/Optional;"), (0, .methodref 8 37), (0, .nameAndType 5 38), (0, u "(Ljava/lang/String;Ljava/lang/String;Ljava/lang/String;Ljava/lang/String;Lcom/example/tejuelo/tejuelo/core/Verdict;Ljava/util/Optional;)V"), (18, u "about"), (0, u "(Ljava/lang/CharSequence;)Lcom/example/tejuelo/tejuelo/core/Finding;"), (0, u "()Ljava/lang/String;"), (2, u "()Lcom/example/tejuelo/tejuelo/core/Verdict;"), (0, u "()Ljava/util/Optional;")] 26

def k13c0 : Code := { maxStack := 2, maxLocals := 7, code := prog_41_method_1_code, exceptionTable := #[], attributes := #[] }
def k13m0 : Method := { name := "<init>", desc := "(Ljava/lang/String;Ljava/lang/String;Ljava/lang/String;Ljava/lang/String;Lcom/example/tejuelo/tejuelo/core/Verdict;Ljava/util/Optional;)V", sig := { parameters := [(.object "java/lang/String"), (.object "java/lang/String"), (.object "java/lang/String"), (.object "java/lang/String"), (.object "com/example/tejuelo/tejuelo/core/Verdict"), (.object "java/util/Optional")], returnType := none }, accessFlags := 1, code := some k13c0 }
def k13c1 : Code := { maxStack := 8, maxLocals := 2, code := prog_41_method_2_code, exceptionTable := #[], attributes := #[] }
def k13m1 : Method := { name := "about", desc := "(Ljava/lang/CharSequence;)Lcom/example/tejuelo/tejuelo/core/Finding;", sig := { parameters := [(.object "java/lang/CharSequence")], returnType := some (.object "com/example/tejuelo/tejuelo/core/Finding") }, accessFlags := 0, code := some k13c1 }
def k13c2 : Code := { maxStack := 1, maxLocals := 1, code := prog_41_method_6_code, exceptionTable := #[], attributes := #[] }
def k13m2 : Method := { name := "code", desc := "()Ljava/lang/String;", sig := { parameters := [], returnType := some (.object "java/lang/String") }, accessFlags := 1, code := some k13c2 }
def k13c3 : Code := { maxStack := 1, maxLocals := 1, code := prog_41_method_7_code, exceptionTable := #[], attributes := #[] }
def k13m3 : Method := { name := "field", desc := "()Ljava/lang/String;", sig := { parameters := [], returnType := some (.object "java/lang/String") }, accessFlags := 1, code := some k13c3 }
def k13c4 : Code := { maxStack := 1, maxLocals := 1, code := prog_41_method_8_code, exceptionTable := #[], attributes := #[] }
def k13m4 : Method := { name := "message", desc := "()Ljava/lang/String;", sig := { parameters := [], returnType := some (.object "java/lang/String") }, accessFlags := 1, code := some k13c4 }
def k13c5 : Code := { maxStack := 1, maxLocals := 1, code := prog_41_method_9_code, exceptionTable := #[], attributes := #[] }
def k13m5 : Method := { name := "clause", desc := "()Ljava/lang/String;", sig := { parameters := [], returnType := some (.object "java/lang/String") }, accessFlags := 1, code := some k13c5 }
def k13c6 : Code := { maxStack := 1, maxLocals := 1, code := prog_41_method_10_code, exceptionTable := #[], attributes := #[] }
def k13m6 : Method := { name := "verdict", desc := "()Lcom/example/tejuelo/tejuelo/core/Verdict;", sig := { parameters := [], returnType := some (.object "com/example/tejuelo/tejuelo/core/Verdict") }, accessFlags := 1, code := some k13c6 }
def k13c7 : Code := { maxStack := 1, maxLocals := 1, code := prog_41_method_11_code, exceptionTable := #[], attributes := #[] }
def k13m7 : Method := { name := "value", desc := "()Ljava/util/Optional;", sig := { parameters := [], returnType := some (.object "java/util/Optional") }, accessFlags := 1, code := some k13c7 }
/-- com/example/tejuelo/tejuelo/core/Finding -/
def k13 : Class := { plain "com/example/tejuelo/tejuelo/core/Finding" (some 12) with
  accessFlags := 49
  interfaces := #[]
  cf := some (fileOf pool13 8 #[] #[{ accessFlags := 1, nameIndex := 5, descriptorIndex := 38, attributes := #[] }, { accessFlags := 0, nameIndex := 57, descriptorIndex := 58, attributes := #[] }, { accessFlags := 1, nameIndex := 11, descriptorIndex := 59, attributes := #[] }, { accessFlags := 1, nameIndex := 15, descriptorIndex := 59, attributes := #[] }, { accessFlags := 1, nameIndex := 18, descriptorIndex := 59, attributes := #[] }, { accessFlags := 1, nameIndex := 21, descriptorIndex := 59, attributes := #[] }, { accessFlags := 1, nameIndex := 24, descriptorIndex := 62, attributes := #[] }, { accessFlags := 1, nameIndex := 28, descriptorIndex := 63, attributes := #[] }] 49 2 #[] #[{ accessFlags := 18, nameIndex := 11, descriptorIndex := 12, attributes := #[] }, { accessFlags := 18, nameIndex := 15, descriptorIndex := 12, attributes := #[] }, { accessFlags := 18, nameIndex := 18, descriptorIndex := 12, attributes := #[] }, { accessFlags := 18, nameIndex := 21, descriptorIndex := 12, attributes := #[] }, { accessFlags := 18, nameIndex := 24, descriptorIndex := 25, attributes := #[] }, { accessFlags := 18, nameIndex := 28, descriptorIndex := 29, attributes := #[] }])
  fields := #[{ name := "code", type := (.object "java/lang/String"), accessFlags := 18, slot := 0, constantValue := 0 }, { name := "field", type := (.object "java/lang/String"), accessFlags := 18, slot := 1, constantValue := 0 }, { name := "message", type := (.object "java/lang/String"), accessFlags := 18, slot := 2, constantValue := 0 }, { name := "clause", type := (.object "java/lang/String"), accessFlags := 18, slot := 3, constantValue := 0 }, { name := "verdict", type := (.object "com/example/tejuelo/tejuelo/core/Verdict"), accessFlags := 18, slot := 4, constantValue := 0 }, { name := "value", type := (.object "java/util/Optional"), accessFlags := 18, slot := 5, constantValue := 0 }]
  methods := #[k13m0, k13m1, k13m2, k13m3, k13m4, k13m5, k13m6, k13m7]
  instanceTypes := #[(.object "java/lang/String"), (.object "java/lang/String"), (.object "java/lang/String"), (.object "java/lang/String"), (.object "com/example/tejuelo/tejuelo/core/Verdict"), (.object "java/util/Optional")]
  staticTypes := #[]
  resolved := Array.replicate 90 none
  statics := none }

def pool14 : Array CpInfo := pool [(2, .class_ 4), (1, u "java/lang/Object"), (0, u "<init>"), (0, u "()V"), (35, .class_ 44), (1, u "java/util/Objects"), (0, u "requireNonNull"), (0, u "(Ljava/lang/Object;)Ljava/lang/Object;")] 137

def k14m0 : Method := { name := "<init>", desc := "()V", sig := { parameters := [], returnType := none }, accessFlags := 2, code := none }
def k14c1 : Code := { maxStack := 2, maxLocals := 1, code := jdk_31_method_10_code, exceptionTable := #[], attributes := #[] }
def k14m1 : Method := { name := "requireNonNull", desc := "(Ljava/lang/Object;)Ljava/lang/Object;", sig := { parameters := [(.object "java/lang/Object")], returnType := some (.object "java/lang/Object") }, accessFlags := 9, code := some k14c1 }
/-- java/util/Objects -/
def k14 : Class := { plain "java/util/Objects" (some 0) with
  accessFlags := 49
  interfaces := #[]
  cf := some (fileOf pool14 42 #[] #[{ accessFlags := 2, nameIndex := 5, descriptorIndex := 6, attributes := #[] }, { accessFlags := 9, nameIndex := 45, descriptorIndex := 46, attributes := #[] }] 49 2 #[] #[])
  fields := #[]
  methods := #[k14m0, k14m1]
  instanceTypes := #[]
  staticTypes := #[]
  resolved := Array.replicate 184 none
  statics := none }

def pool15 : Array CpInfo := pool [(4, .class_ 6), (1, u "java/lang/Object"), (0, u "<init>"), (0, u "()V"), (5, .class_ 16), (1, u "java/lang/StringLatin1"), (73, u "canEncode"), (14, u "(C)Z"), (15, u "$assertionsDisabled"), (0, u "Z"), (98, .class_ 223), (1, u "java/lang/StringLatin1$LinesSpliterator"), (156, u "toBytes"), (1, u "(C)[B"), (7, .class_ 391), (0, u "java/lang/StringLatin1$CharsSpliterator")] 3

def k15m0 : Method := { name := "<init>", desc := "()V", sig := { parameters := [], returnType := none }, accessFlags := 0, code := none }
def k15c1 : Code := { maxStack := 2, maxLocals := 1, code := jdk_43_method_3_code, exceptionTable := #[], attributes := #[] }
def k15m1 : Method := { name := "canEncode", desc := "(C)Z", sig := { parameters := [.char], returnType := some .boolean }, accessFlags := 9, code := some k15c1 }
def k15c2 : Code := { maxStack := 4, maxLocals := 1, code := jdk_43_method_46_code, exceptionTable := #[], attributes := #[] }
def k15m2 : Method := { name := "toBytes", desc := "(C)[B", sig := { parameters := [.char], returnType := some (.array .byte) }, accessFlags := 9, code := some k15c2 }
/-- java/lang/StringLatin1 -/
def k15 : Class := { plain "java/lang/StringLatin1" (some 0) with
  accessFlags := 48
  interfaces := #[]
  cf := some (fileOf pool15 14 #[.nestMembers #[390, 221]] #[{ accessFlags := 0, nameIndex := 7, descriptorIndex := 8, attributes := #[] }, { accessFlags := 9, nameIndex := 90, descriptorIndex := 105, attributes := #[] }, { accessFlags := 9, nameIndex := 380, descriptorIndex := 382, attributes := #[] }] 48 4 #[] #[{ accessFlags := 4120, nameIndex := 121, descriptorIndex := 122, attributes := #[] }])
  fields := #[{ name := "$assertionsDisabled", type := .boolean, accessFlags := 4120, slot := 0, constantValue := 0 }]
  methods := #[k15m0, k15m1, k15m2]
  instanceTypes := #[]
  staticTypes := #[.boolean]
  resolved := Array.replicate 395 none
  statics := none }

def pool16 : Array CpInfo := pool [(2, .class_ 4), (1, u "java/lang/Object"), (0, u "<init>"), (0, u "()V"), (17, .class_ 26), (1, u "jdk/internal/util/Preconditions"), (28, .class_ 56), (0, u "jdk/internal/util/Preconditions$4"), (57, .class_ 115), (0, u "jdk/internal/util/Preconditions$1"), (7, u "SIOOBE_FORMATTER"), (0, u "Ljava/util/function/BiFunction;"), (0, .class_ 126), (0, u "jdk/internal/util/Preconditions$2"), (3, u "AIOOBE_FORMATTER"), (0, .class_ 132), (0, u "jdk/internal/util/Preconditions$3"), (3, u "IOOBE_FORMATTER")] 57

def k16m0 : Method := { name := "<init>", desc := "()V", sig := { parameters := [], returnType := none }, accessFlags := 1, code := none }
/-- jdk/internal/util/Preconditions -/
def k16 : Class := { plain "jdk/internal/util/Preconditions" (some 0) with
  accessFlags := 33
  interfaces := #[]
  cf := some (fileOf pool16 24 #[.nestMembers #[55, 131, 125, 114]] #[{ accessFlags := 1, nameIndex := 5, descriptorIndex := 6, attributes := #[] }] 33 2 #[] #[{ accessFlags := 25, nameIndex := 123, descriptorIndex := 124, attributes := #[] }, { accessFlags := 25, nameIndex := 130, descriptorIndex := 124, attributes := #[] }, { accessFlags := 25, nameIndex := 136, descriptorIndex := 124, attributes := #[] }])
  fields := #[{ name := "SIOOBE_FORMATTER", type := (.object "java/util/function/BiFunction"), accessFlags := 25, slot := 0, constantValue := 0 }, { name := "AIOOBE_FORMATTER", type := (.object "java/util/function/BiFunction"), accessFlags := 25, slot := 1, constantValue := 0 }, { name := "IOOBE_FORMATTER", type := (.object "java/util/function/BiFunction"), accessFlags := 25, slot := 2, constantValue := 0 }]
  methods := #[k16m0]
  instanceTypes := #[]
  staticTypes := #[(.object "java/util/function/BiFunction"), (.object "java/util/function/BiFunction"), (.object "java/util/function/BiFunction")]
  resolved := Array.replicate 194 none
  statics := some 3 }

def pool17 : Array CpInfo := pool [(9, u "<init>"), (6, .class_ 18), (1, u "java/lang/Object"), (0, u "()V"), (1, .class_ 23), (1, u "jdk/internal/util/ArraysSupport"), (0, u "LOG2_ARRAY_LONG_INDEX_SCALE"), (0, u "I"), (2, u "U"), (0, u "Ljdk/internal/misc/Unsafe;"), (8, u "BIG_ENDIAN"), (0, u "Z"), (8, u "LOG2_BYTE_BIT_SIZE"), (4, u "LOG2_ARRAY_INT_INDEX_SCALE"), (54, u "JLA"), (0, u "Ljdk/internal/access/JavaLangAccess;"), (11, u "LOG2_ARRAY_BOOLEAN_INDEX_SCALE"), (9, u "LOG2_ARRAY_BYTE_INDEX_SCALE"), (5, u "LOG2_ARRAY_CHAR_INDEX_SCALE"), (5, u "LOG2_ARRAY_SHORT_INDEX_SCALE"), (18, u "LOG2_ARRAY_FLOAT_INDEX_SCALE"), (24, u "LOG2_ARRAY_DOUBLE_INDEX_SCALE"), (89, u "T_BOOLEAN"), (2, u "T_CHAR"), (1, u "T_FLOAT"), (1, u "T_DOUBLE"), (1, u "T_BYTE"), (1, u "T_SHORT"), (1, u "T_INT"), (1, u "T_LONG"), (1, u "SOFT_MAX_ARRAY_LENGTH")] 83

def k17m0 : Method := { name := "<init>", desc := "()V", sig := { parameters := [], returnType := none }, accessFlags := 2, code := none }
/-- jdk/internal/util/ArraysSupport -/
def k17 : Class := { plain "jdk/internal/util/ArraysSupport" (some 0) with
  accessFlags := 33
  interfaces := #[]
  cf := some (fileOf pool17 21 #[] #[{ accessFlags := 2, nameIndex := 9, descriptorIndex := 19, attributes := #[] }] 33 16 #[] #[{ accessFlags := 24, nameIndex := 28, descriptorIndex := 29, attributes := #[] }, { accessFlags := 26, nameIndex := 38, descriptorIndex := 39, attributes := #[] }, { accessFlags := 25, nameIndex := 121, descriptorIndex := 25, attributes := #[] }, { accessFlags := 25, nameIndex := 131, descriptorIndex := 25, attributes := #[] }, { accessFlags := 25, nameIndex := 137, descriptorIndex := 25, attributes := #[] }, { accessFlags := 25, nameIndex := 143, descriptorIndex := 25, attributes := #[] }, { accessFlags := 25, nameIndex := 53, descriptorIndex := 25, attributes := #[] }, { accessFlags := 25, nameIndex := 24, descriptorIndex := 25, attributes := #[] }, { accessFlags := 25, nameIndex := 162, descriptorIndex := 25, attributes := #[] }, { accessFlags := 25, nameIndex := 187, descriptorIndex := 25, attributes := #[] }, { accessFlags := 26, nameIndex := 48, descriptorIndex := 25, attributes := #[] }, { accessFlags := 25, nameIndex := 277, descriptorIndex := 25, attributes := #[] }, { accessFlags := 25, nameIndex := 280, descriptorIndex := 25, attributes := #[] }, { accessFlags := 25, nameIndex := 282, descriptorIndex := 25, attributes := #[] }, { accessFlags := 25, nameIndex := 284, descriptorIndex := 25, attributes := #[] }, { accessFlags := 25, nameIndex := 286, descriptorIndex := 25, attributes := #[] }, { accessFlags := 25, nameIndex := 288, descriptorIndex := 25, attributes := #[] }, { accessFlags := 25, nameIndex := 290, descriptorIndex := 25, attributes := #[] }, { accessFlags := 25, nameIndex := 292, descriptorIndex := 25, attributes := #[] }, { accessFlags := 26, nameIndex := 108, descriptorIndex := 109, attributes := #[] }, { accessFlags := 25, nameIndex := 294, descriptorIndex := 25, attributes := #[] }])
  fields := #[{ name := "U", type := (.object "jdk/internal/misc/Unsafe"), accessFlags := 24, slot := 0, constantValue := 0 }, { name := "BIG_ENDIAN", type := .boolean, accessFlags := 26, slot := 1, constantValue := 0 }, { name := "LOG2_ARRAY_BOOLEAN_INDEX_SCALE", type := .int, accessFlags := 25, slot := 2, constantValue := 0 }, { name := "LOG2_ARRAY_BYTE_INDEX_SCALE", type := .int, accessFlags := 25, slot := 3, constantValue := 0 }, { name := "LOG2_ARRAY_CHAR_INDEX_SCALE", type := .int, accessFlags := 25, slot := 4, constantValue := 0 }, { name := "LOG2_ARRAY_SHORT_INDEX_SCALE", type := .int, accessFlags := 25, slot := 5, constantValue := 0 }, { name := "LOG2_ARRAY_INT_INDEX_SCALE", type := .int, accessFlags := 25, slot := 6, constantValue := 0 }, { name := "LOG2_ARRAY_LONG_INDEX_SCALE", type := .int, accessFlags := 25, slot := 7, constantValue := 0 }, { name := "LOG2_ARRAY_FLOAT_INDEX_SCALE", type := .int, accessFlags := 25, slot := 8, constantValue := 0 }, { name := "LOG2_ARRAY_DOUBLE_INDEX_SCALE", type := .int, accessFlags := 25, slot := 9, constantValue := 0 }, { name := "LOG2_BYTE_BIT_SIZE", type := .int, accessFlags := 26, slot := 10, constantValue := 0 }, { name := "T_BOOLEAN", type := .int, accessFlags := 25, slot := 11, constantValue := 0 }, { name := "T_CHAR", type := .int, accessFlags := 25, slot := 12, constantValue := 0 }, { name := "T_FLOAT", type := .int, accessFlags := 25, slot := 13, constantValue := 0 }, { name := "T_DOUBLE", type := .int, accessFlags := 25, slot := 14, constantValue := 0 }, { name := "T_BYTE", type := .int, accessFlags := 25, slot := 15, constantValue := 0 }, { name := "T_SHORT", type := .int, accessFlags := 25, slot := 16, constantValue := 0 }, { name := "T_INT", type := .int, accessFlags := 25, slot := 17, constantValue := 0 }, { name := "T_LONG", type := .int, accessFlags := 25, slot := 18, constantValue := 0 }, { name := "JLA", type := (.object "jdk/internal/access/JavaLangAccess"), accessFlags := 26, slot := 19, constantValue := 0 }, { name := "SOFT_MAX_ARRAY_LENGTH", type := .int, accessFlags := 25, slot := 20, constantValue := 0 }]
  methods := #[k17m0]
  instanceTypes := #[]
  staticTypes := #[(.object "jdk/internal/misc/Unsafe"), .boolean, .int, .int, .int, .int, .int, .int, .int, .int, .int, .int, .int, .int, .int, .int, .int, .int, .int, (.object "jdk/internal/access/JavaLangAccess"), .int]
  resolved := Array.replicate 378 none
  statics := none }

def pool18 : Array CpInfo := pool [(1, u "java/lang/Cloneable"), (0, .class_ 1), (0, u "java/lang/Object"), (0, .class_ 3)] 3

/-- java/lang/Cloneable -/
def k18 : Class := { plain "java/lang/Cloneable" (some 0) with
  accessFlags := 1537
  interfaces := #[]
  cf := some (fileOf pool18 2 #[] #[] 1537 4 #[] #[])
  fields := #[]
  methods := #[]
  instanceTypes := #[]
  staticTypes := #[]
  resolved := Array.replicate 8 none
  statics := none }

/-- the primitive byte -/
def k19 : Class := { plain "byte" none with kind := .primitive 'B', accessFlags := 0x411 }
/-- [B -/
def k20 : Class := { plain "[B" (some 0) with kind := .array 19 .byte, interfaces := #[18, 2], accessFlags := 1041 }

/-- the primitive char -/
def k21 : Class := { plain "char" none with kind := .primitive 'C', accessFlags := 0x411 }
/-- [C -/
def k22 : Class := { plain "[C" (some 0) with kind := .array 21 .char, interfaces := #[18, 2], accessFlags := 1041 }

/-- the primitive int -/
def k23 : Class := { plain "int" none with kind := .primitive 'I', accessFlags := 0x411 }
/-- [I -/
def k24 : Class := { plain "[I" (some 0) with kind := .array 23 .int, interfaces := #[18, 2], accessFlags := 1041 }

/-- [Lcom/example/tejuelo/tejuelo/core/Verdict; -/
def k25 : Class := { plain "[Lcom/example/tejuelo/tejuelo/core/Verdict;" (some 0) with kind := .array 10 (.object "com/example/tejuelo/tejuelo/core/Verdict"), interfaces := #[18, 2], accessFlags := 1041 }

def heap : Heap := #[{ cls := 7, slots := #[.long 0, .int 1, .null, .int 0, .null, .int 0, .int 0], vm := .statics 7 },
  { cls := 10, slots := #[.ref 4, .ref 5, .ref 6, .ref 7, .ref 8, .null], vm := .statics 10 },
  { cls := 11, slots := #[.ref 9], vm := .statics 11 },
  { cls := 16, slots := #[.null, .null, .null], vm := .statics 16 },
  { cls := 10, slots := #[.null, .int 0, .int 0, .null, .null], vm := .none },
  { cls := 10, slots := #[.null, .int 1, .int 0, .null, .null], vm := .none },
  { cls := 10, slots := #[.null, .int 2, .int 0, .null, .null], vm := .none },
  { cls := 10, slots := #[.null, .int 3, .int 0, .null, .null], vm := .none },
  { cls := 10, slots := #[.null, .int 4, .int 0, .null, .null], vm := .none },
  { cls := 11, slots := #[.null], vm := .none }]
def classes : Array Class := #[k0, k1, k2, k3, k4, k5, k6, k7, k8, k9, k10, k11, k12, k13, k14, k15, k16, k17, k18, k19, k20, k21, k22, k23, k24, k25]
def interned : List (Array UInt16 × Addr) := []
def slotsUsed : Nat := 43
def theMethod : MethodId := ⟨1, 3⟩
def args0 : Array Value := #[.long 5, .long 6, .int 7, .int 8, .int 3]
def aboutOver (below : List Frame) : State where
  vm := { classes := classes, interned := interned.toArray }
  heap := heap
  slotsUsed := slotsUsed
  threads := #[{ frames := .invoking theMethod args0 :: below }]
def below0 : List Frame := [.native { method := ⟨0, 0⟩, args := #[] }]
def about1 : State := aboutOver below0
def p0 : Program := .bare "" "" ""
def e0 : Env := launch0.env 0 0 0
theorem w_frames : about1.frames = Frame.invoking theMethod args0 :: below0 := rfl
set_option maxRecDepth 65536 in
theorem w_args : argsFit about1.vm theMethod args0 = true := by decide +kernel
set_option maxRecDepth 65536 in
theorem w_heap : heapFits about1 = true := by decide +kernel
set_option maxRecDepth 65536 in
theorem w_runnable : about1.curStatus? = some .runnable := by decide +kernel
set_option maxRecDepth 65536 in
theorem w_alone : about1.alone = true := by decide +kernel
set_option maxRecDepth 65536 in
theorem w_named : about1.methodNamed? x = some theMethod := by decide +kernel
set_option maxRecDepth 65536 in
theorem w_hears : about1.hears theMethod below0 = true := by decide +kernel
set_option maxRecDepth 65536 in
theorem w_ripe : about1.ripe theMethod args0 below0 = true := by decide +kernel
theorem w_running : about1.status = .running := rfl
set_option maxRecDepth 65536 in
theorem w_room : about1.hasRoom e0.platform room_1 = true :=
  launch0.hasRoom_least _ room_1 (by decide +kernel) (by decide +kernel) (by decide +kernel) (by decide +kernel) (by decide +kernel) (by decide +kernel)
theorem allAtoms_all (ts : List Jvm.Cond) (a : Array Jvm.Value) (st : Jvm.State) : (allAtoms ts).before a st = ts.all (fun c => c.before a st) := by
  induction ts with
  | nil => rfl
  | cons c t ih =>
    show (Jvm.Cond.and c (allAtoms t)).before a st = _
    rw [Jvm.Cond.before_and, ih, List.all_cons]
def words1 : List Jvm.Cond := Jvm.Cond.code x code maxLocals ret :: tables_1
/-- a 'code' word, met by the world's own term for the bytes: nothing is compared byte by byte -/
theorem code_word {y : MethodName} {bytes : ByteArray} {mx : Nat} {rt : Option FieldType} {a : Array Value} {s : State} {m : MethodId} {meth : Method} {c : Code} (h1 : s.methodNamed? y = some m) (h2 : s.vm.method? m = some meth) (h3 : meth.code = some c) (h4 : c.code = bytes)
    (h5 : (c.maxLocals == mx && c.exceptionTable.isEmpty && decide (c.maxStack ≤ mostOperands) && decide (meth.sig.returnType = rt) && !meth.locks && decide (parseMethodDescriptor y.desc = some meth.sig)) = true) : (Jvm.Cond.code y bytes mx rt).before a s = true := by
  simp only [Bool.and_eq_true, beq_iff_eq, Bool.not_eq_true', decide_eq_true_eq] at h5
  obtain ⟨⟨⟨⟨⟨g1, g2⟩, g3⟩, g4⟩, g5⟩, g6⟩ := h5
  simp [Cond.before, Cond.holds, Cond.value, h1, h2, h3, h4, g1, g2, g3, g4, g5, g6]
def isCode : Jvm.Cond → Bool
  | .code _ _ _ _ => true
  | _ => false
theorem all_split {L : List Jvm.Cond} {P : Jvm.Cond → Bool} (h1 : L.all (fun c => isCode c || P c) = true) (h2 : ∀ c ∈ L.filter isCode, P c = true) : L.all P = true := by
  refine List.all_eq_true.mpr fun c hc => ?_
  have h := List.all_eq_true.mp h1 c hc
  rcases Bool.eq_false_or_eq_true (isCode c) with hi | hi
  · exact h2 c (List.mem_filter.mpr ⟨hc, hi⟩)
  · simpa [hi] using h
set_option maxRecDepth 65536 in
theorem w_c0 : (Jvm.Cond.code x code maxLocals ret).before args0 about1 = true := code_word (m := ⟨1, 3⟩) (meth := k1m3) (c := k1c3) (by decide +kernel) rfl rfl rfl (by decide +kernel)
set_option maxRecDepth 65536 in
theorem w_c1 : (Jvm.Cond.code ({ cls := "com/example/tejuelo/tejuelo/core/FindingAboutPinLaw", name := "ch", desc := "(JI)C" } : Jvm.MethodName) method_2_code (3 : Nat) (Option.some Jvm.ClassFile.FieldType.char)).before args0 about1 = true := code_word (m := ⟨1, 1⟩) (meth := k1m1) (c := k1c1) (by decide +kernel) rfl rfl rfl (by decide +kernel)
set_option maxRecDepth 65536 in
theorem w_c2 : (Jvm.Cond.code ({ cls := "com/example/tejuelo/tejuelo/core/FindingAboutPinLaw", name := "two", desc := "(CC)Ljava/lang/String;" } : Jvm.MethodName) method_3_code (3 : Nat) (Option.some (Jvm.ClassFile.FieldType.object "java/lang/String"))).before args0 about1 = true := code_word (m := ⟨1, 2⟩) (meth := k1m2) (c := k1c2) (by decide +kernel) rfl rfl rfl (by decide +kernel)
set_option maxRecDepth 65536 in
theorem w_c3 : (Jvm.Cond.code ({ cls := "java/lang/String", name := "<init>", desc := "([C)V" } : Jvm.MethodName) jdk_42_method_3_code (2 : Nat) (Option.none : Option Jvm.ClassFile.FieldType)).before args0 about1 = true := code_word (m := ⟨7, 1⟩) (meth := k7m1) (c := k7c1) (by decide +kernel) rfl rfl rfl (by decide +kernel)
set_option maxRecDepth 65536 in
theorem w_c4 : (Jvm.Cond.code ({ cls := "java/lang/String", name := "<init>", desc := "([CIILjava/lang/Void;)V" } : Jvm.MethodName) jdk_42_method_149_code (6 : Nat) (Option.none : Option Jvm.ClassFile.FieldType)).before args0 about1 = true := code_word (m := ⟨7, 4⟩) (meth := k7m4) (c := k7c4) (by decide +kernel) rfl rfl rfl (by decide +kernel)
set_option maxRecDepth 65536 in
theorem w_c5 : (Jvm.Cond.code ({ cls := "java/lang/Object", name := "<init>", desc := "()V" } : Jvm.MethodName) object_method_1_code (1 : Nat) (Option.none : Option Jvm.ClassFile.FieldType)).before args0 about1 = true := code_word (m := ⟨0, 0⟩) (meth := k0m0) (c := k0c0) (by decide +kernel) rfl rfl rfl (by decide +kernel)
set_option maxRecDepth 65536 in
theorem w_c6 : (Jvm.Cond.code ({ cls := "java/lang/StringUTF16", name := "compress", desc := "([CII)[B" } : Jvm.MethodName) jdk_52_method_16_code (6 : Nat) (Option.some (Jvm.ClassFile.FieldType.array Jvm.ClassFile.FieldType.byte))).before args0 about1 = true := code_word (m := ⟨8, 2⟩) (meth := k8m2) (c := k8c2) (by decide +kernel) rfl rfl rfl (by decide +kernel)
set_option maxRecDepth 65536 in
theorem w_c7 : (Jvm.Cond.code ({ cls := "java/lang/StringUTF16", name := "compress", desc := "([CI[BII)I" } : Jvm.MethodName) jdk_52_method_21_code (7 : Nat) (Option.some Jvm.ClassFile.FieldType.int)).before args0 about1 = true := code_word (m := ⟨8, 3⟩) (meth := k8m3) (c := k8c3) (by decide +kernel) rfl rfl rfl (by decide +kernel)
set_option maxRecDepth 65536 in
theorem w_c8 : (Jvm.Cond.code ({ cls := "java/lang/StringUTF16", name := "coderFromArrayLen", desc := "([BI)B" } : Jvm.MethodName) jdk_52_method_15_code (2 : Nat) (Option.some Jvm.ClassFile.FieldType.byte)).before args0 about1 = true := code_word (m := ⟨8, 1⟩) (meth := k8m1) (c := k8c1) (by decide +kernel) rfl rfl rfl (by decide +kernel)
set_option maxRecDepth 65536 in
theorem w_c9 : (Jvm.Cond.code ({ cls := "java/util/Optional", name := "empty", desc := "()Ljava/util/Optional;" } : Jvm.MethodName) jdk_32_method_1_code (1 : Nat) (Option.some (Jvm.ClassFile.FieldType.object "java/util/Optional"))).before args0 about1 = true := code_word (m := ⟨11, 0⟩) (meth := k11m0) (c := k11c0) (by decide +kernel) rfl rfl rfl (by decide +kernel)
set_option maxRecDepth 65536 in
theorem w_c10 : (Jvm.Cond.code ({ cls := "com/example/tejuelo/tejuelo/core/Finding", name := "<init>", desc := "(Ljava/lang/String;Ljava/lang/String;Ljava/lang/String;Ljava/lang/String;Lcom/example/tejuelo/tejuelo/core/Verdict;Ljava/util/Optional;)V" } : Jvm.MethodName) prog_41_method_1_code (7 : Nat) (Option.none : Option Jvm.ClassFile.FieldType)).before args0 about1 = true := code_word (m := ⟨13, 0⟩) (meth := k13m0) (c := k13c0) (by decide +kernel) rfl rfl rfl (by decide +kernel)
set_option maxRecDepth 65536 in
theorem w_c11 : (Jvm.Cond.code ({ cls := "java/lang/Record", name := "<init>", desc := "()V" } : Jvm.MethodName) jdk_30_method_1_code (1 : Nat) (Option.none : Option Jvm.ClassFile.FieldType)).before args0 about1 = true := code_word (m := ⟨12, 0⟩) (meth := k12m0) (c := k12c0) (by decide +kernel) rfl rfl rfl (by decide +kernel)
set_option maxRecDepth 65536 in
theorem w_c12 : (Jvm.Cond.code ({ cls := "com/example/tejuelo/tejuelo/core/Finding", name := "about", desc := "(Ljava/lang/CharSequence;)Lcom/example/tejuelo/tejuelo/core/Finding;" } : Jvm.MethodName) prog_41_method_2_code (2 : Nat) (Option.some (Jvm.ClassFile.FieldType.object "com/example/tejuelo/tejuelo/core/Finding"))).before args0 about1 = true := code_word (m := ⟨13, 1⟩) (meth := k13m1) (c := k13c1) (by decide +kernel) rfl rfl rfl (by decide +kernel)
set_option maxRecDepth 65536 in
theorem w_c13 : (Jvm.Cond.code ({ cls := "java/util/Optional", name := "of", desc := "(Ljava/lang/Object;)Ljava/util/Optional;" } : Jvm.MethodName) jdk_32_method_3_code (1 : Nat) (Option.some (Jvm.ClassFile.FieldType.object "java/util/Optional"))).before args0 about1 = true := code_word (m := ⟨11, 2⟩) (meth := k11m2) (c := k11c2) (by decide +kernel) rfl rfl rfl (by decide +kernel)
set_option maxRecDepth 65536 in
theorem w_c14 : (Jvm.Cond.code ({ cls := "java/util/Objects", name := "requireNonNull", desc := "(Ljava/lang/Object;)Ljava/lang/Object;" } : Jvm.MethodName) jdk_31_method_10_code (1 : Nat) (Option.some (Jvm.ClassFile.FieldType.object "java/lang/Object"))).before args0 about1 = true := code_word (m := ⟨14, 1⟩) (meth := k14m1) (c := k14c1) (by decide +kernel) rfl rfl rfl (by decide +kernel)
set_option maxRecDepth 65536 in
theorem w_c15 : (Jvm.Cond.code ({ cls := "java/util/Optional", name := "<init>", desc := "(Ljava/lang/Object;)V" } : Jvm.MethodName) jdk_32_method_2_code (2 : Nat) (Option.none : Option Jvm.ClassFile.FieldType)).before args0 about1 = true := code_word (m := ⟨11, 1⟩) (meth := k11m1) (c := k11c1) (by decide +kernel) rfl rfl rfl (by decide +kernel)
set_option maxRecDepth 65536 in
theorem w_c16 : (Jvm.Cond.code ({ cls := "com/example/tejuelo/tejuelo/core/Finding", name := "value", desc := "()Ljava/util/Optional;" } : Jvm.MethodName) prog_41_method_11_code (1 : Nat) (Option.some (Jvm.ClassFile.FieldType.object "java/util/Optional"))).before args0 about1 = true := code_word (m := ⟨13, 7⟩) (meth := k13m7) (c := k13c7) (by decide +kernel) rfl rfl rfl (by decide +kernel)
set_option maxRecDepth 65536 in
theorem w_c17 : (Jvm.Cond.code ({ cls := "com/example/tejuelo/tejuelo/core/Finding", name := "code", desc := "()Ljava/lang/String;" } : Jvm.MethodName) prog_41_method_6_code (1 : Nat) (Option.some (Jvm.ClassFile.FieldType.object "java/lang/String"))).before args0 about1 = true := code_word (m := ⟨13, 2⟩) (meth := k13m2) (c := k13c2) (by decide +kernel) rfl rfl rfl (by decide +kernel)
set_option maxRecDepth 65536 in
theorem w_c18 : (Jvm.Cond.code ({ cls := "java/lang/String", name := "equals", desc := "(Ljava/lang/Object;)Z" } : Jvm.MethodName) jdk_42_method_66_code (3 : Nat) (Option.some Jvm.ClassFile.FieldType.boolean)).before args0 about1 = true := code_word (m := ⟨7, 2⟩) (meth := k7m2) (c := k7c2) (by decide +kernel) rfl rfl rfl (by decide +kernel)
set_option maxRecDepth 65536 in
theorem w_c19 : (Jvm.Cond.code ({ cls := "com/example/tejuelo/tejuelo/core/Finding", name := "field", desc := "()Ljava/lang/String;" } : Jvm.MethodName) prog_41_method_7_code (1 : Nat) (Option.some (Jvm.ClassFile.FieldType.object "java/lang/String"))).before args0 about1 = true := code_word (m := ⟨13, 3⟩) (meth := k13m3) (c := k13c3) (by decide +kernel) rfl rfl rfl (by decide +kernel)
set_option maxRecDepth 65536 in
theorem w_c20 : (Jvm.Cond.code ({ cls := "com/example/tejuelo/tejuelo/core/Finding", name := "message", desc := "()Ljava/lang/String;" } : Jvm.MethodName) prog_41_method_8_code (1 : Nat) (Option.some (Jvm.ClassFile.FieldType.object "java/lang/String"))).before args0 about1 = true := code_word (m := ⟨13, 4⟩) (meth := k13m4) (c := k13c4) (by decide +kernel) rfl rfl rfl (by decide +kernel)
set_option maxRecDepth 65536 in
theorem w_c21 : (Jvm.Cond.code ({ cls := "com/example/tejuelo/tejuelo/core/Finding", name := "clause", desc := "()Ljava/lang/String;" } : Jvm.MethodName) prog_41_method_9_code (1 : Nat) (Option.some (Jvm.ClassFile.FieldType.object "java/lang/String"))).before args0 about1 = true := code_word (m := ⟨13, 5⟩) (meth := k13m5) (c := k13c5) (by decide +kernel) rfl rfl rfl (by decide +kernel)
set_option maxRecDepth 65536 in
theorem w_c22 : (Jvm.Cond.code ({ cls := "com/example/tejuelo/tejuelo/core/Finding", name := "verdict", desc := "()Lcom/example/tejuelo/tejuelo/core/Verdict;" } : Jvm.MethodName) prog_41_method_10_code (1 : Nat) (Option.some (Jvm.ClassFile.FieldType.object "com/example/tejuelo/tejuelo/core/Verdict"))).before args0 about1 = true := code_word (m := ⟨13, 6⟩) (meth := k13m6) (c := k13c6) (by decide +kernel) rfl rfl rfl (by decide +kernel)
set_option maxRecDepth 65536 in
theorem w_c23 : (Jvm.Cond.code ({ cls := "java/util/Optional", name := "isPresent", desc := "()Z" } : Jvm.MethodName) jdk_32_method_6_code (1 : Nat) (Option.some Jvm.ClassFile.FieldType.boolean)).before args0 about1 = true := code_word (m := ⟨11, 4⟩) (meth := k11m4) (c := k11c4) (by decide +kernel) rfl rfl rfl (by decide +kernel)
set_option maxRecDepth 65536 in
theorem w_c24 : (Jvm.Cond.code ({ cls := "java/util/Optional", name := "get", desc := "()Ljava/lang/Object;" } : Jvm.MethodName) jdk_32_method_5_code (1 : Nat) (Option.some (Jvm.ClassFile.FieldType.object "java/lang/Object"))).before args0 about1 = true := code_word (m := ⟨11, 3⟩) (meth := k11m3) (c := k11c3) (by decide +kernel) rfl rfl rfl (by decide +kernel)
set_option maxRecDepth 65536 in
theorem w_c25 : (Jvm.Cond.code ({ cls := "java/lang/String", name := "valueOf", desc := "(C)Ljava/lang/String;" } : Jvm.MethodName) jdk_42_method_139_code (1 : Nat) (Option.some (Jvm.ClassFile.FieldType.object "java/lang/String"))).before args0 about1 = true := code_word (m := ⟨7, 3⟩) (meth := k7m3) (c := k7c3) (by decide +kernel) rfl rfl rfl (by decide +kernel)
set_option maxRecDepth 65536 in
theorem w_c26 : (Jvm.Cond.code ({ cls := "java/lang/StringLatin1", name := "canEncode", desc := "(C)Z" } : Jvm.MethodName) jdk_43_method_3_code (1 : Nat) (Option.some Jvm.ClassFile.FieldType.boolean)).before args0 about1 = true := code_word (m := ⟨15, 1⟩) (meth := k15m1) (c := k15c1) (by decide +kernel) rfl rfl rfl (by decide +kernel)
set_option maxRecDepth 65536 in
theorem w_c27 : (Jvm.Cond.code ({ cls := "java/lang/StringLatin1", name := "toBytes", desc := "(C)[B" } : Jvm.MethodName) jdk_43_method_46_code (1 : Nat) (Option.some (Jvm.ClassFile.FieldType.array Jvm.ClassFile.FieldType.byte))).before args0 about1 = true := code_word (m := ⟨15, 2⟩) (meth := k15m2) (c := k15c2) (by decide +kernel) rfl rfl rfl (by decide +kernel)
set_option maxRecDepth 65536 in
theorem w_c28 : (Jvm.Cond.code ({ cls := "java/lang/String", name := "<init>", desc := "([BB)V" } : Jvm.MethodName) jdk_42_method_151_code (3 : Nat) (Option.none : Option Jvm.ClassFile.FieldType)).before args0 about1 = true := code_word (m := ⟨7, 5⟩) (meth := k7m5) (c := k7c5) (by decide +kernel) rfl rfl rfl (by decide +kernel)
def codes1 : List Jvm.Cond := [Jvm.Cond.code x code maxLocals ret, Jvm.Cond.code ({ cls := "com/example/tejuelo/tejuelo/core/FindingAboutPinLaw", name := "ch", desc := "(JI)C" } : Jvm.MethodName) method_2_code (3 : Nat) (Option.some Jvm.ClassFile.FieldType.char), Jvm.Cond.code ({ cls := "com/example/tejuelo/tejuelo/core/FindingAboutPinLaw", name := "two", desc := "(CC)Ljava/lang/String;" } : Jvm.MethodName) method_3_code (3 : Nat) (Option.some (Jvm.ClassFile.FieldType.object "java/lang/String")), Jvm.Cond.code ({ cls := "java/lang/String", name := "<init>", desc := "([C)V" } : Jvm.MethodName) jdk_42_method_3_code (2 : Nat) (Option.none : Option Jvm.ClassFile.FieldType), Jvm.Cond.code ({ cls := "java/lang/String", name := "<init>", desc := "([CIILjava/lang/Void;)V" } : Jvm.MethodName) jdk_42_method_149_code (6 : Nat) (Option.none : Option Jvm.ClassFile.FieldType), Jvm.Cond.code ({ cls := "java/lang/Object", name := "<init>", desc := "()V" } : Jvm.MethodName) object_method_1_code (1 : Nat) (Option.none : Option Jvm.ClassFile.FieldType), Jvm.Cond.code ({ cls := "java/lang/StringUTF16", name := "compress", desc := "([CII)[B" } : Jvm.MethodName) jdk_52_method_16_code (6 : Nat) (Option.some (Jvm.ClassFile.FieldType.array Jvm.ClassFile.FieldType.byte)), Jvm.Cond.code ({ cls := "java/lang/StringUTF16", name := "compress", desc := "([CI[BII)I" } : Jvm.MethodName) jdk_52_method_21_code (7 : Nat) (Option.some Jvm.ClassFile.FieldType.int), Jvm.Cond.code ({ cls := "java/lang/StringUTF16", name := "coderFromArrayLen", desc := "([BI)B" } : Jvm.MethodName) jdk_52_method_15_code (2 : Nat) (Option.some Jvm.ClassFile.FieldType.byte), Jvm.Cond.code ({ cls := "java/util/Optional", name := "empty", desc := "()Ljava/util/Optional;" } : Jvm.MethodName) jdk_32_method_1_code (1 : Nat) (Option.some (Jvm.ClassFile.FieldType.object "java/util/Optional")), Jvm.Cond.code ({ cls := "com/example/tejuelo/tejuelo/core/Finding", name := "<init>", desc := "(Ljava/lang/String;Ljava/lang/String;Ljava/lang/String;Ljava/lang/String;Lcom/example/tejuelo/tejuelo/core/Verdict;Ljava/util/Optional;)V" } : Jvm.MethodName) prog_41_method_1_code (7 : Nat) (Option.none : Option Jvm.ClassFile.FieldType), Jvm.Cond.code ({ cls := "java/lang/Record", name := "<init>", desc := "()V" } : Jvm.MethodName) jdk_30_method_1_code (1 : Nat) (Option.none : Option Jvm.ClassFile.FieldType), Jvm.Cond.code ({ cls := "com/example/tejuelo/tejuelo/core/Finding", name := "about", desc := "(Ljava/lang/CharSequence;)Lcom/example/tejuelo/tejuelo/core/Finding;" } : Jvm.MethodName) prog_41_method_2_code (2 : Nat) (Option.some (Jvm.ClassFile.FieldType.object "com/example/tejuelo/tejuelo/core/Finding")), Jvm.Cond.code ({ cls := "java/util/Optional", name := "of", desc := "(Ljava/lang/Object;)Ljava/util/Optional;" } : Jvm.MethodName) jdk_32_method_3_code (1 : Nat) (Option.some (Jvm.ClassFile.FieldType.object "java/util/Optional")), Jvm.Cond.code ({ cls := "java/util/Objects", name := "requireNonNull", desc := "(Ljava/lang/Object;)Ljava/lang/Object;" } : Jvm.MethodName) jdk_31_method_10_code (1 : Nat) (Option.some (Jvm.ClassFile.FieldType.object "java/lang/Object")), Jvm.Cond.code ({ cls := "java/util/Optional", name := "<init>", desc := "(Ljava/lang/Object;)V" } : Jvm.MethodName) jdk_32_method_2_code (2 : Nat) (Option.none : Option Jvm.ClassFile.FieldType), Jvm.Cond.code ({ cls := "com/example/tejuelo/tejuelo/core/Finding", name := "value", desc := "()Ljava/util/Optional;" } : Jvm.MethodName) prog_41_method_11_code (1 : Nat) (Option.some (Jvm.ClassFile.FieldType.object "java/util/Optional")), Jvm.Cond.code ({ cls := "com/example/tejuelo/tejuelo/core/Finding", name := "code", desc := "()Ljava/lang/String;" } : Jvm.MethodName) prog_41_method_6_code (1 : Nat) (Option.some (Jvm.ClassFile.FieldType.object "java/lang/String")), Jvm.Cond.code ({ cls := "java/lang/String", name := "equals", desc := "(Ljava/lang/Object;)Z" } : Jvm.MethodName) jdk_42_method_66_code (3 : Nat) (Option.some Jvm.ClassFile.FieldType.boolean), Jvm.Cond.code ({ cls := "com/example/tejuelo/tejuelo/core/Finding", name := "field", desc := "()Ljava/lang/String;" } : Jvm.MethodName) prog_41_method_7_code (1 : Nat) (Option.some (Jvm.ClassFile.FieldType.object "java/lang/String")), Jvm.Cond.code ({ cls := "com/example/tejuelo/tejuelo/core/Finding", name := "message", desc := "()Ljava/lang/String;" } : Jvm.MethodName) prog_41_method_8_code (1 : Nat) (Option.some (Jvm.ClassFile.FieldType.object "java/lang/String")), Jvm.Cond.code ({ cls := "com/example/tejuelo/tejuelo/core/Finding", name := "clause", desc := "()Ljava/lang/String;" } : Jvm.MethodName) prog_41_method_9_code (1 : Nat) (Option.some (Jvm.ClassFile.FieldType.object "java/lang/String")), Jvm.Cond.code ({ cls := "com/example/tejuelo/tejuelo/core/Finding", name := "verdict", desc := "()Lcom/example/tejuelo/tejuelo/core/Verdict;" } : Jvm.MethodName) prog_41_method_10_code (1 : Nat) (Option.some (Jvm.ClassFile.FieldType.object "com/example/tejuelo/tejuelo/core/Verdict")), Jvm.Cond.code ({ cls := "java/util/Optional", name := "isPresent", desc := "()Z" } : Jvm.MethodName) jdk_32_method_6_code (1 : Nat) (Option.some Jvm.ClassFile.FieldType.boolean), Jvm.Cond.code ({ cls := "java/util/Optional", name := "get", desc := "()Ljava/lang/Object;" } : Jvm.MethodName) jdk_32_method_5_code (1 : Nat) (Option.some (Jvm.ClassFile.FieldType.object "java/lang/Object")), Jvm.Cond.code ({ cls := "java/lang/String", name := "valueOf", desc := "(C)Ljava/lang/String;" } : Jvm.MethodName) jdk_42_method_139_code (1 : Nat) (Option.some (Jvm.ClassFile.FieldType.object "java/lang/String")), Jvm.Cond.code ({ cls := "java/lang/StringLatin1", name := "canEncode", desc := "(C)Z" } : Jvm.MethodName) jdk_43_method_3_code (1 : Nat) (Option.some Jvm.ClassFile.FieldType.boolean), Jvm.Cond.code ({ cls := "java/lang/StringLatin1", name := "toBytes", desc := "(C)[B" } : Jvm.MethodName) jdk_43_method_46_code (1 : Nat) (Option.some (Jvm.ClassFile.FieldType.array Jvm.ClassFile.FieldType.byte)), Jvm.Cond.code ({ cls := "java/lang/String", name := "<init>", desc := "([BB)V" } : Jvm.MethodName) jdk_42_method_151_code (3 : Nat) (Option.none : Option Jvm.ClassFile.FieldType)]
set_option maxRecDepth 65536 in
theorem codes_eq : words1.filter isCode = codes1 := rfl
theorem w_codes : ∀ c ∈ words1.filter isCode, c.before args0 about1 = true := by
  rw [codes_eq]
  intro c hc
  simp only [codes1, List.mem_cons, List.not_mem_nil, or_false] at hc
  rcases hc with rfl | rfl | rfl | rfl | rfl | rfl | rfl | rfl | rfl | rfl | rfl | rfl | rfl | rfl | rfl | rfl | rfl | rfl | rfl | rfl | rfl | rfl | rfl | rfl | rfl | rfl | rfl | rfl | rfl
  · exact w_c0
  · exact w_c1
  · exact w_c2
  · exact w_c3
  · exact w_c4
  · exact w_c5
  · exact w_c6
  · exact w_c7
  · exact w_c8
  · exact w_c9
  · exact w_c10
  · exact w_c11
  · exact w_c12
  · exact w_c13
  · exact w_c14
  · exact w_c15
  · exact w_c16
  · exact w_c17
  · exact w_c18
  · exact w_c19
  · exact w_c20
  · exact w_c21
  · exact w_c22
  · exact w_c23
  · exact w_c24
  · exact w_c25
  · exact w_c26
  · exact w_c27
  · exact w_c28
set_option maxRecDepth 65536 in
theorem w_t1 : (words1.take 24).all (fun c => isCode c || c.before args0 about1) = true := by decide +kernel
set_option maxRecDepth 65536 in
theorem w_t2 : ((words1.drop 24).take 24).all (fun c => isCode c || c.before args0 about1) = true := by decide +kernel
set_option maxRecDepth 65536 in
theorem w_t3 : (((words1.drop 24).drop 24).take 24).all (fun c => isCode c || c.before args0 about1) = true := by decide +kernel
set_option maxRecDepth 65536 in
theorem w_t4 : ((((words1.drop 24).drop 24).drop 24).take 24).all (fun c => isCode c || c.before args0 about1) = true := by decide +kernel
set_option maxRecDepth 65536 in
theorem w_t5 : (((((words1.drop 24).drop 24).drop 24).drop 24).take 24).all (fun c => isCode c || c.before args0 about1) = true := by decide +kernel
set_option maxRecDepth 65536 in
theorem w_t6 : ((((((words1.drop 24).drop 24).drop 24).drop 24).drop 24).take 24).all (fun c => isCode c || c.before args0 about1) = true := by decide +kernel
set_option maxRecDepth 65536 in
theorem w_t7 : ((((((words1.drop 24).drop 24).drop 24).drop 24).drop 24).drop 24).all (fun c => isCode c || c.before args0 about1) = true := by decide +kernel
theorem w_tables : (allAtoms (Jvm.Cond.code x code maxLocals ret :: tables_1)).before args0 about1 = true := by
  rw [allAtoms_all]
  show words1.all (fun c => c.before args0 about1) = true
  refine all_split ?_ w_codes
  rw [← List.take_append_drop 24 words1, List.all_append, w_t1, ← List.take_append_drop 24 (words1.drop 24), List.all_append, w_t2, ← List.take_append_drop 24 ((words1.drop 24).drop 24), List.all_append, w_t3, ← List.take_append_drop 24 (((words1.drop 24).drop 24).drop 24), List.all_append, w_t4, ← List.take_append_drop 24 ((((words1.drop 24).drop 24).drop 24).drop 24), List.all_append, w_t5, ← List.take_append_drop 24 (((((words1.drop 24).drop 24).drop 24).drop 24).drop 24), List.all_append, w_t6, w_t7]
  rfl
set_option maxRecDepth 65536 in
theorem w_rest : rest_1_c.before args0 about1 = true := by decide +kernel
set_option maxRecDepth 65536 in
theorem w_case : (Jvm.Cond.and given_1 narrow_1).before args0 about1 = true := by decide +kernel
theorem w_applies : (headSpec (Jvm.Cond.code x code maxLocals ret :: tables_1) room_1).applies x e0.platform about1 = true :=
  (Spec.applies_iff w_frames).mpr ⟨w_running, w_runnable, w_alone, w_named, w_hears, w_ripe, w_room, w_tables⟩
theorem atStart : AtStart classFile x code maxLocals ret World_1 tables_1 room_1 Calls_1 rest_1 Pre_1 launch0 p0 e0 about1 theMethod args0 below0 :=
  ⟨lists_1, trivial, launch0.admits_env _ _ _, launch0.least_env, fairChoices_fair.cas, fairChoices_fair.clock, w_frames, w_args, w_heap, w_applies, trivial, w_rest, w_case⟩
end start1
theorem witness_1 : WitnessClaimed_1 := ⟨start1.p0, start1.e0, start1.about1, start1.theMethod, start1.args0, start1.below0, start1.atStart⟩
end Jvm.Pilot.@@N@@
