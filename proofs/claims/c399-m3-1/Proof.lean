import JvmDerived
import JvmDerived.Pilot.@@N@@Statement
import JvmDerived.Pilot.@@N@@Code
set_option linter.unusedVariables false
set_option linter.unusedSimpArgs false
namespace Jvm.RoadKit
open Sem ClassFile Op Lib Jvm.Stand Jvm.Free Jvm.LawKit
section New
variable {p : Program} {l : Launch} {e : Env} {R : Room} {s : State} {m : MethodId} {args : Array Value} {below : List Frame} {meth : Method} {c : Code} {T : State} {locs : List Loc} {cells slots : Nat}
theorem retI (X : Stand p l e R s m args below meth c T locs cells slots) (hx : p.tables.exec = Jvm.exec) {pc : Nat} {Ls : Array Slot} {z : Int32} {rest : List Value} (hret : meth.sig.returnType = some .int) (hd : decode c.code pc = .ok (.ireturn, 1)) {fs : List Frame}
    (hl : ∀ (f : JFrame) (acts : List Action), f.method = m → f.locked = none → f.entered = [] → (doReturn e (T.setTop f) acts (some (.int z))).1 = T.setFrames fs) : Steps p.tables e below (T.setTop (mkF m pc Ls (.int z :: rest))) (T.setFrames fs) := by
  have hm' : T.vm.method? m = some meth := X.method'
  have hn : narrow .int (.int z) = .int z := rfl
  show Steps p.tables e below (T.setTop { method := m, pc := pc, locals := Ls, stack := _ :: rest, locked := none }) _
  jvm_step X.here [X.here.top, hx, hd, hm', hret, hn]
  first | (intro acts; rw [hl _ acts rfl rfl rfl]) | rw [hl _ _ rfl rfl rfl]
  exact Steps.refl _
end New
end Jvm.RoadKit
namespace Jvm.Pilot.@@N@@
namespace Own
open Jvm Jvm.ClassFile Sem Op Lib Jvm.Free Jvm.Stand Jvm.LawKit Jvm.RoadKit Bundle
/-- a class that holds a chosen method is no interface -/
theorem nfOf {args : Array Value} {s : State} {C : String} {x y y0 : MethodName} (hsel : (Cond.selects C x y).before args s = true) (hc : y0.cls = y.cls) : NotFace s y0 := fun r0 h0 => by
  obtain ⟨c2, r2, m2, q1, q2, q3, q4, kP, hkP, hkPi⟩ := Cond.selects_spec hsel
  have e1 := findClass_of_methodNamed h0; have e2 := findClass_of_methodNamed q3
  rw [hc, e2] at e1
  exact ⟨kP, (Option.some.inj e1) ▸ hkP, hkPi⟩
/-- from this frame on the method comes to an end of which P holds -/
def Run (tb : Tables) (e : Env) (below : List Frame) (P : State → Prop) (T : State) (g : JFrame) : Prop := ∃ t, Steps tb e below (T.setTop g) t ∧ P t
theorem Run.of {tb : Tables} {e : Env} {below : List Frame} {P : State → Prop} {T T' : State} {g g' : JFrame} (st : ∀ target, Steps tb e below (T'.setTop g') target → Steps tb e below (T.setTop g) target) (k : Run tb e below P T' g') : Run tb e below P T g := by
  obtain ⟨t, h, hp⟩ := k; exact ⟨t, st _ h, hp⟩
theorem Run.tr {tb : Tables} {e : Env} {below : List Frame} {P : State → Prop} {T T' : State} {g g' : JFrame} (st : Steps tb e below (T.setTop g) (T'.setTop g')) (k : Run tb e below P T' g') : Run tb e below P T g := by
  obtain ⟨t, h, hp⟩ := k; exact ⟨t, st.trans h, hp⟩
/-- what is kept up while the heap grows and safe cells are written -/
def Cl (Z : State) (Inv : Heap → Prop) (Sf : Heap → Addr → Prop) : Prop :=
  (∀ (h h' : Heap) (ws : List Addr), Keep h h' ws → (∀ x ∈ ws, Sf h x) → Inv h → Inv h' ∧ ∀ x, Sf h x → Sf h' x) ∧
  (∀ (h : Heap) (x : Addr), h.size ≤ x → Sf h x) ∧
  (∀ (h : Heap) (x : Addr) (C : String), Exa Z h x C → C ≠ "java/lang/String" → C ≠ "[B" → Sf h x) ∧
  (∀ (h : Heap) (x : Addr) (c : Cell) (ty : FieldType), Arr Z h x c ty → ty ≠ .byte → Sf h x)
/-- where the walk of a body stands -/
def WP (p : Program) (l : Launch) (e : Env) (R : Room) (s : State) (m : MethodId) (args : Array Value) (below : List Frame) (meth : Method) (c : Code) (Z : State) (own mname : String) (bytes : ByteArray) (maxL : Nat) (ret : Option FieldType) (n0 : Nat) (Inv : Heap → Prop) (Sf : Heap → Addr → Prop) (T : State) (h : Heap) (locs : List Loc) (cells slots : Nat) : Prop :=
  Stand p l e R s m args below meth c T locs cells slots ∧ T.heap = h ∧ Z.Warmed39 s.vm ∧ s.vm.findClass own = some m.cls ∧ Fr n0 locs ∧ Old Z n0 h ∧ Inv h ∧ (p.tables.exec = Jvm.exec ∧ c.code = bytes ∧ c.maxLocals = maxL ∧ meth.sig.returnType = ret ∧ meth.locks = false ∧ meth.name = mname) ∧ Cl Z Inv Sf
theorem ext_keep {h h' : Heap} (E : Ext h h') : Keep h h' [] := (Keep.refl h []).ext E
theorem keep_id (h : Heap) : Keep h h [] := Keep.refl h []
theorem own_n {a b : Nat} (h : a < b) : a < b := h
theorem own_ne {a b : Nat} (h : a < b ∨ b < a) : a ≠ b := by omega
theorem own_ni {a b : Nat} (h : a ≠ b) : a < b ∨ b < a := by omega
theorem fr1 {k : Nat} {a : Addr} {sl : Nat} (q : k ≤ a) : Fr k [(⟨a, sl⟩ : Loc)] := fun y hy => by cases List.mem_singleton.mp hy; exact q
section Kit
variable {p : Program} {l : Launch} {e : Env} {R : Room} {s : State} {m : MethodId} {args : Array Value} {below : List Frame} {meth : Method} {c : Code} {Z : State} {own mname : String} {bytes : ByteArray} {maxL : Nat} {ret : Option FieldType} {n0 : Nat} {Inv : Heap → Prop} {Sf : Heap → Addr → Prop} {T : State} {h : Heap} {locs : List Loc} {cells slots : Nat} {a0 : Array Value} {P : State → Prop} {pc pc' : Nat} {Ls Ls' : Array Slot} {st : List Value}
theorem WP.hx (X : WP p l e R s m args below meth c Z own mname bytes maxL ret n0 Inv Sf T h locs cells slots) : p.tables.exec = Jvm.exec := X.2.2.2.2.2.2.2.1.1
theorem WP.hby (X : WP p l e R s m args below meth c Z own mname bytes maxL ret n0 Inv Sf T h locs cells slots) : c.code = bytes := X.2.2.2.2.2.2.2.1.2.1
theorem WP.hml (X : WP p l e R s m args below meth c Z own mname bytes maxL ret n0 Inv Sf T h locs cells slots) : c.maxLocals = maxL := X.2.2.2.2.2.2.2.1.2.2.1
theorem WP.hret (X : WP p l e R s m args below meth c Z own mname bytes maxL ret n0 Inv Sf T h locs cells slots) : meth.sig.returnType = ret := X.2.2.2.2.2.2.2.1.2.2.2.1
theorem WP.hlk (X : WP p l e R s m args below meth c Z own mname bytes maxL ret n0 Inv Sf T h locs cells slots) : meth.locks = false := X.2.2.2.2.2.2.2.1.2.2.2.2.1
theorem WP.hnm (X : WP p l e R s m args below meth c Z own mname bytes maxL ret n0 Inv Sf T h locs cells slots) : meth.name = mname := X.2.2.2.2.2.2.2.1.2.2.2.2.2
theorem WP.cl (X : WP p l e R s m args below meth c Z own mname bytes maxL ret n0 Inv Sf T h locs cells slots) : Cl Z Inv Sf := X.2.2.2.2.2.2.2.2
theorem WP.inv (X : WP p l e R s m args below meth c Z own mname bytes maxL ret n0 Inv Sf T h locs cells slots) : Inv h := X.2.2.2.2.2.2.1
theorem WP.old (X : WP p l e R s m args below meth c Z own mname bytes maxL ret n0 Inv Sf T h locs cells slots) : Old Z n0 h := X.2.2.2.2.2.1
theorem WP.n0le (X : WP p l e R s m args below meth c Z own mname bytes maxL ret n0 Inv Sf T h locs cells slots) : n0 ≤ h.size := X.old.1 ▸ X.old.2.1
theorem WP.fr (X : WP p l e R s m args below meth c Z own mname bytes maxL ret n0 Inv Sf T h locs cells slots) : Fr n0 locs := X.2.2.2.2.1
theorem WP.hown (X : WP p l e R s m args below meth c Z own mname bytes maxL ret n0 Inv Sf T h locs cells slots) : s.vm.findClass own = some m.cls := X.2.2.2.1
theorem WP.hZ (X : WP p l e R s m args below meth c Z own mname bytes maxL ret n0 Inv Sf T h locs cells slots) : Z.Warmed39 s.vm := X.2.2.1
theorem WP.eT (X : WP p l e R s m args below meth c Z own mname bytes maxL ret n0 Inv Sf T h locs cells slots) : T.heap = h := X.2.1
theorem WP.mv (X : WP p l e R s m args below meth c Z own mname bytes maxL ret n0 Inv Sf T h locs cells slots) {T' : State} {h' : Heap} {locs' : List Loc} {cells' slots' : Nat} (X' : Stand p l e R s m args below meth c T' locs' cells' slots') (e' : T'.heap = h') {ws : List Addr} (K : Keep h h' ws) (hs : ∀ x ∈ ws, Sf h x ∧ n0 ≤ x) (N : Fr n0 locs') : WP p l e R s m args below meth c Z own mname bytes maxL ret n0 Inv Sf T' h' locs' cells' slots' :=
  ⟨X', e', X.hZ, X.hown, N, X.old.keep K (fun x q => (hs x q).2), (X.cl.1 h h' ws K (fun x q => (hs x q).1) X.inv).1, X.2.2.2.2.2.2.2.1, X.cl⟩
theorem WP.same (X : WP p l e R s m args below meth c Z own mname bytes maxL ret n0 Inv Sf T h locs cells slots) {T' : State} (X' : Stand p l e R s m args below meth c T' locs cells slots) (e' : T'.heap = h) : WP p l e R s m args below meth c Z own mname bytes maxL ret n0 Inv Sf T' h locs cells slots := X.mv X' e' (keep_id h) (fun _ q => nomatch q) X.fr
theorem WP.up (X : WP p l e R s m args below meth c Z own mname bytes maxL ret n0 Inv Sf T h locs cells slots) {cells' slots' : Nat} (h1 : cells ≤ cells') (h2 : slots ≤ slots') : WP p l e R s m args below meth c Z own mname bytes maxL ret n0 Inv Sf T h locs cells' slots' :=
  ⟨⟨X.1.admits, X.1.cas, X.1.clock, X.1.frames, X.1.room, X.1.hears, X.1.method, X.1.code, X.1.here, X.1.tail, X.1.warmed, X.1.limits, X.1.bytes, X.1.same.mono h1 h2⟩, X.2⟩
/-- a safe cell stays safe -/
theorem WP.sf (X : WP p l e R s m args below meth c Z own mname bytes maxL ret n0 Inv Sf T h locs cells slots) {h' : Heap} {ws : List Addr} {x : Addr} (K : Keep h h' ws) (hs : ∀ x ∈ ws, Sf h x ∧ n0 ≤ x) (q : Sf h x) : Sf h' x := (X.cl.1 h h' ws K (fun x q => (hs x q).1) X.inv).2 x q
theorem WP.sfN (X : WP p l e R s m args below meth c Z own mname bytes maxL ret n0 Inv Sf T h locs cells slots) {x : Addr} (q : h.size ≤ x) : Sf h x := X.cl.2.1 h x q
theorem WP.sfE (X : WP p l e R s m args below meth c Z own mname bytes maxL ret n0 Inv Sf T h locs cells slots) {x : Addr} {C : String} (E : Exa Z h x C) (h1 : C ≠ "java/lang/String" := by decide) (h2 : C ≠ "[B" := by decide) : Sf h x := X.cl.2.2.1 h x C E h1 h2
theorem WP.sfA (X : WP p l e R s m args below meth c Z own mname bytes maxL ret n0 Inv Sf T h locs cells slots) {x : Addr} {k : ClassId} {ty : FieldType} {z : Int32} {vs : List Value} {d : Value} (A : Arv Z h x k ty z vs d) (h1 : ty ≠ .byte := by decide) : Sf h x := by
  obtain ⟨c, A, -⟩ := A; exact X.cl.2.2.2 h x c ty A h1

theorem k_aloadN (X : WP p l e R s m args below meth c Z own mname bytes maxL ret n0 Inv Sf T h locs cells slots) {k : Fin 4} {v : Value} (hd : decode bytes pc = .ok (.aload_n k, 1)) (hl : Ls[k.val]? = some (.val v)) (hv : v.isRef = true) (hp : pc + 1 = pc') (q : Run p.tables e below P T (mkF m pc' Ls (v :: st))) : Run p.tables e below P T (mkF m pc Ls (st)) := by
  subst hp; exact Run.of (fun _ k => XS.aloadN X.1.here X.hx rfl (hb X.hby hd) hl hv k) q
theorem k_aload (X : WP p l e R s m args below meth c Z own mname bytes maxL ret n0 Inv Sf T h locs cells slots) {k : Nat} {v : Value} (hd : decode bytes pc = .ok (.aload k, 2)) (hl : Ls[k]? = some (.val v)) (hv : v.isRef = true) (hp : pc + 2 = pc') (q : Run p.tables e below P T (mkF m pc' Ls (v :: st))) : Run p.tables e below P T (mkF m pc Ls (st)) := by
  subst hp; exact Run.of (fun _ k => XS.aload X.1.here X.hx rfl (hb X.hby hd) hl hv k) q
theorem k_iloadN (X : WP p l e R s m args below meth c Z own mname bytes maxL ret n0 Inv Sf T h locs cells slots) {k : Fin 4} {v : Int32} (hd : decode bytes pc = .ok (.iload_n k, 1)) (hl : Ls[k.val]? = some (.val (.int v))) (hp : pc + 1 = pc') (q : Run p.tables e below P T (mkF m pc' Ls (.int v :: st))) : Run p.tables e below P T (mkF m pc Ls (st)) := by
  subst hp; exact Run.of (fun _ k => XS.iloadN X.1.here X.hx rfl (hb X.hby hd) hl k) q
theorem k_iload (X : WP p l e R s m args below meth c Z own mname bytes maxL ret n0 Inv Sf T h locs cells slots) {k : Nat} {v : Int32} (hd : decode bytes pc = .ok (.iload k, 2)) (hl : Ls[k]? = some (.val (.int v))) (hp : pc + 2 = pc') (q : Run p.tables e below P T (mkF m pc' Ls (.int v :: st))) : Run p.tables e below P T (mkF m pc Ls (st)) := by
  subst hp; exact Run.of (fun _ k => XS.iload X.1.here X.hx rfl (hb X.hby hd) hl k) q
theorem k_astoreN (X : WP p l e R s m args below meth c Z own mname bytes maxL ret n0 Inv Sf T h locs cells slots) {k : Fin 4} {v : Value} (hd : decode bytes pc = .ok (.astore_n k, 1)) (hv : v.isRef = true) (hl : storeLocals Ls k.val v = some Ls') (hp : pc + 1 = pc') (q : Run p.tables e below P T (mkF m pc' Ls' (st))) : Run p.tables e below P T (mkF m pc Ls (v :: st)) := by
  subst hp; exact Run.of (fun _ k => XS.astoreN X.1.here X.hx rfl (hb X.hby hd) rfl hv hl k) q
theorem k_astore (X : WP p l e R s m args below meth c Z own mname bytes maxL ret n0 Inv Sf T h locs cells slots) {k : Nat} {v : Value} (hd : decode bytes pc = .ok (.astore k, 2)) (hv : v.isRef = true) (hl : storeLocals Ls k v = some Ls') (hp : pc + 2 = pc') (q : Run p.tables e below P T (mkF m pc' Ls' (st))) : Run p.tables e below P T (mkF m pc Ls (v :: st)) := by
  subst hp; exact Run.of (fun _ k => XS.astore X.1.here X.hx rfl (hb X.hby hd) rfl hv hl k) q
theorem k_istoreN (X : WP p l e R s m args below meth c Z own mname bytes maxL ret n0 Inv Sf T h locs cells slots) {k : Fin 4} {v : Int32} (hd : decode bytes pc = .ok (.istore_n k, 1)) (hl : storeLocals Ls k.val (.int v) = some Ls') (hp : pc + 1 = pc') (q : Run p.tables e below P T (mkF m pc' Ls' (st))) : Run p.tables e below P T (mkF m pc Ls (.int v :: st)) := by
  subst hp; exact Run.of (fun _ k => XS.istoreN X.1.here X.hx rfl (hb X.hby hd) rfl hl k) q
theorem k_istore (X : WP p l e R s m args below meth c Z own mname bytes maxL ret n0 Inv Sf T h locs cells slots) {k : Nat} {v : Int32} (hd : decode bytes pc = .ok (.istore k, 2)) (hl : storeLocals Ls k (.int v) = some Ls') (hp : pc + 2 = pc') (q : Run p.tables e below P T (mkF m pc' Ls' (st))) : Run p.tables e below P T (mkF m pc Ls (.int v :: st)) := by
  subst hp; exact Run.of (fun _ k => XS.istore X.1.here X.hx rfl (hb X.hby hd) rfl hl k) q
theorem k_iconst (X : WP p l e R s m args below meth c Z own mname bytes maxL ret n0 Inv Sf T h locs cells slots) {k : Int} {w : Int32} (hd : decode bytes pc = .ok (.iconst k, 1)) (hv : Int32.ofInt k = w) (hp : pc + 1 = pc') (q : Run p.tables e below P T (mkF m pc' Ls (.int w :: st))) : Run p.tables e below P T (mkF m pc Ls (st)) := by
  subst hp; subst hv; exact Run.of (fun _ k => XS.iconst X.1.here X.hx rfl (hb X.hby hd)  k) q
theorem k_bipush (X : WP p l e R s m args below meth c Z own mname bytes maxL ret n0 Inv Sf T h locs cells slots) {k : Int} {w : Int32} (hd : decode bytes pc = .ok (.bipush k, 2)) (hv : (Int8.ofInt k).toInt32 = w) (hp : pc + 2 = pc') (q : Run p.tables e below P T (mkF m pc' Ls (.int w :: st))) : Run p.tables e below P T (mkF m pc Ls (st)) := by
  subst hp; subst hv; exact Run.of (fun _ k => XS.bipush X.1.here X.hx rfl (hb X.hby hd)  k) q
theorem k_sipush (X : WP p l e R s m args below meth c Z own mname bytes maxL ret n0 Inv Sf T h locs cells slots) {k : Int} {w : Int32} (hd : decode bytes pc = .ok (.sipush k, 3)) (hv : (Int16.ofInt k).toInt32 = w) (hp : pc + 3 = pc') (q : Run p.tables e below P T (mkF m pc' Ls (.int w :: st))) : Run p.tables e below P T (mkF m pc Ls (st)) := by
  subst hp; subst hv; exact Run.of (fun _ k => XS.sipush X.1.here X.hx rfl (hb X.hby hd)  k) q
theorem k_aconstNull (X : WP p l e R s m args below meth c Z own mname bytes maxL ret n0 Inv Sf T h locs cells slots)  (hd : decode bytes pc = .ok (.aconst_null, 1))  (hp : pc + 1 = pc') (q : Run p.tables e below P T (mkF m pc' Ls (.null :: st))) : Run p.tables e below P T (mkF m pc Ls (st)) := by
  subst hp; exact Run.of (fun _ k => XS.aconstNull X.1.here X.hx rfl (hb X.hby hd)  k) q
theorem k_iadd (X : WP p l e R s m args below meth c Z own mname bytes maxL ret n0 Inv Sf T h locs cells slots) {x y w : Int32} (hd : decode bytes pc = .ok (.iadd, 1)) (hv : x + y = w) (hp : pc + 1 = pc') (q : Run p.tables e below P T (mkF m pc' Ls (.int w :: st))) : Run p.tables e below P T (mkF m pc Ls (.int y :: .int x :: st)) := by
  subst hp; subst hv; exact Run.of (fun _ k => XS.iadd X.1.here X.hx rfl (hb X.hby hd) rfl k) q
theorem k_isub (X : WP p l e R s m args below meth c Z own mname bytes maxL ret n0 Inv Sf T h locs cells slots) {x y w : Int32} (hd : decode bytes pc = .ok (.isub, 1)) (hv : x - y = w) (hp : pc + 1 = pc') (q : Run p.tables e below P T (mkF m pc' Ls (.int w :: st))) : Run p.tables e below P T (mkF m pc Ls (.int y :: .int x :: st)) := by
  subst hp; subst hv; exact Run.of (fun _ k => XS.isub X.1.here X.hx rfl (hb X.hby hd) rfl k) q
theorem k_imul (X : WP p l e R s m args below meth c Z own mname bytes maxL ret n0 Inv Sf T h locs cells slots) {x y w : Int32} (hd : decode bytes pc = .ok (.imul, 1)) (hv : x * y = w) (hp : pc + 1 = pc') (q : Run p.tables e below P T (mkF m pc' Ls (.int w :: st))) : Run p.tables e below P T (mkF m pc Ls (.int y :: .int x :: st)) := by
  subst hp; subst hv; exact Run.of (fun _ k => XS.imul X.1.here X.hx rfl (hb X.hby hd) rfl k) q
theorem k_iand (X : WP p l e R s m args below meth c Z own mname bytes maxL ret n0 Inv Sf T h locs cells slots) {x y w : Int32} (hd : decode bytes pc = .ok (.iand, 1)) (hv : x &&& y = w) (hp : pc + 1 = pc') (q : Run p.tables e below P T (mkF m pc' Ls (.int w :: st))) : Run p.tables e below P T (mkF m pc Ls (.int y :: .int x :: st)) := by
  subst hp; subst hv; exact Run.of (fun _ k => XS.iand X.1.here X.hx rfl (hb X.hby hd) rfl k) q
theorem k_ior (X : WP p l e R s m args below meth c Z own mname bytes maxL ret n0 Inv Sf T h locs cells slots) {x y w : Int32} (hd : decode bytes pc = .ok (.ior, 1)) (hv : x ||| y = w) (hp : pc + 1 = pc') (q : Run p.tables e below P T (mkF m pc' Ls (.int w :: st))) : Run p.tables e below P T (mkF m pc Ls (.int y :: .int x :: st)) := by
  subst hp; subst hv; exact Run.of (fun _ k => XS.ior X.1.here X.hx rfl (hb X.hby hd) rfl k) q
theorem k_ixor (X : WP p l e R s m args below meth c Z own mname bytes maxL ret n0 Inv Sf T h locs cells slots) {x y w : Int32} (hd : decode bytes pc = .ok (.ixor, 1)) (hv : x ^^^ y = w) (hp : pc + 1 = pc') (q : Run p.tables e below P T (mkF m pc' Ls (.int w :: st))) : Run p.tables e below P T (mkF m pc Ls (.int y :: .int x :: st)) := by
  subst hp; subst hv; exact Run.of (fun _ k => XS.ixor X.1.here X.hx rfl (hb X.hby hd) rfl k) q
theorem k_ishl (X : WP p l e R s m args below meth c Z own mname bytes maxL ret n0 Inv Sf T h locs cells slots) {x y w : Int32} (hd : decode bytes pc = .ok (.ishl, 1)) (hv : (x <<< (y &&& 31)) = w) (hp : pc + 1 = pc') (q : Run p.tables e below P T (mkF m pc' Ls (.int w :: st))) : Run p.tables e below P T (mkF m pc Ls (.int y :: .int x :: st)) := by
  subst hp; subst hv; exact Run.of (fun _ k => XS.ishl X.1.here X.hx rfl (hb X.hby hd) rfl k) q
theorem k_ishr (X : WP p l e R s m args below meth c Z own mname bytes maxL ret n0 Inv Sf T h locs cells slots) {x y w : Int32} (hd : decode bytes pc = .ok (.ishr, 1)) (hv : (x >>> (y &&& 31)) = w) (hp : pc + 1 = pc') (q : Run p.tables e below P T (mkF m pc' Ls (.int w :: st))) : Run p.tables e below P T (mkF m pc Ls (.int y :: .int x :: st)) := by
  subst hp; subst hv; exact Run.of (fun _ k => XS.ishr X.1.here X.hx rfl (hb X.hby hd) rfl k) q
theorem k_iushr (X : WP p l e R s m args below meth c Z own mname bytes maxL ret n0 Inv Sf T h locs cells slots) {x y w : Int32} (hd : decode bytes pc = .ok (.iushr, 1)) (hv : ((x.toUInt32 >>> (y &&& 31).toUInt32).toInt32) = w) (hp : pc + 1 = pc') (q : Run p.tables e below P T (mkF m pc' Ls (.int w :: st))) : Run p.tables e below P T (mkF m pc Ls (.int y :: .int x :: st)) := by
  subst hp; subst hv; exact Run.of (fun _ k => XS.iushr X.1.here X.hx rfl (hb X.hby hd) rfl k) q
theorem k_irem (X : WP p l e R s m args below meth c Z own mname bytes maxL ret n0 Inv Sf T h locs cells slots) {x y w : Int32} (hd : decode bytes pc = .ok (.irem, 1)) (hy : y ≠ 0) (hv : x - (x / y) * y = w) (hp : pc + 1 = pc') (q : Run p.tables e below P T (mkF m pc' Ls (.int w :: st))) : Run p.tables e below P T (mkF m pc Ls (.int y :: .int x :: st)) := by
  subst hp; subst hv; exact Run.of (fun _ k => XS.irem X.1.here X.hx rfl (hb X.hby hd) rfl hy k) q
theorem k_idiv (X : WP p l e R s m args below meth c Z own mname bytes maxL ret n0 Inv Sf T h locs cells slots) {x y w : Int32} (hd : decode bytes pc = .ok (.idiv, 1)) (hy : y ≠ 0) (hv : x / y = w) (hp : pc + 1 = pc') (q : Run p.tables e below P T (mkF m pc' Ls (.int w :: st))) : Run p.tables e below P T (mkF m pc Ls (.int y :: .int x :: st)) := by
  subst hp; subst hv; exact Run.of (fun _ k => XS.idiv X.1.here X.hx rfl (hb X.hby hd) rfl hy k) q
theorem k_ineg (X : WP p l e R s m args below meth c Z own mname bytes maxL ret n0 Inv Sf T h locs cells slots) {x w : Int32} (hd : decode bytes pc = .ok (.ineg, 1)) (hv : -x = w) (hp : pc + 1 = pc') (q : Run p.tables e below P T (mkF m pc' Ls (.int w :: st))) : Run p.tables e below P T (mkF m pc Ls (.int x :: st)) := by
  subst hp; subst hv; exact Run.of (fun _ k => XS.ineg X.1.here X.hx rfl (hb X.hby hd) rfl k) q
theorem k_i2c (X : WP p l e R s m args below meth c Z own mname bytes maxL ret n0 Inv Sf T h locs cells slots) {x w : Int32} (hd : decode bytes pc = .ok (.i2c, 1)) (hv : x.toUInt32.toUInt16.toUInt32.toInt32 = w) (hp : pc + 1 = pc') (q : Run p.tables e below P T (mkF m pc' Ls (.int w :: st))) : Run p.tables e below P T (mkF m pc Ls (.int x :: st)) := by
  subst hp; subst hv; exact Run.of (fun _ k => XS.i2c X.1.here X.hx rfl (hb X.hby hd) rfl k) q
theorem k_i2b (X : WP p l e R s m args below meth c Z own mname bytes maxL ret n0 Inv Sf T h locs cells slots) {x w : Int32} (hd : decode bytes pc = .ok (.i2b, 1)) (hv : x.toInt8.toInt32 = w) (hp : pc + 1 = pc') (q : Run p.tables e below P T (mkF m pc' Ls (.int w :: st))) : Run p.tables e below P T (mkF m pc Ls (.int x :: st)) := by
  subst hp; subst hv; exact Run.of (fun _ k => XS.i2b X.1.here X.hx rfl (hb X.hby hd) rfl k) q
theorem k_iinc (X : WP p l e R s m args below meth c Z own mname bytes maxL ret n0 Inv Sf T h locs cells slots) {k : Nat} {cst : Int} {x w : Int32} (hd : decode bytes pc = .ok (.iinc k cst, 3)) (hl : Ls[k]? = some (.val (.int x))) (hv : x + Int32.ofInt cst = w) (hl' : storeLocals Ls k (.int w) = some Ls') (hp : pc + 3 = pc') (q : Run p.tables e below P T (mkF m pc' Ls' (st))) : Run p.tables e below P T (mkF m pc Ls (st)) := by
  subst hp; subst hv; exact Run.of (fun _ k => XS.iinc X.1.here X.hx rfl (hb X.hby hd) hl hl' k) q
theorem k_lloadN (X : WP p l e R s m args below meth c Z own mname bytes maxL ret n0 Inv Sf T h locs cells slots) {k : Fin 4} {v : Int64} (hd : decode bytes pc = .ok (.lload_n k, 1)) (hl : Ls[k.val]? = some (.val (.long v))) (hp : pc + 1 = pc') (q : Run p.tables e below P T (mkF m pc' Ls (.long v :: st))) : Run p.tables e below P T (mkF m pc Ls (st)) := by
  subst hp; exact Run.of (fun _ k => XS.lloadN X.1.here X.hx rfl (hb X.hby hd) hl k) q
theorem k_lload (X : WP p l e R s m args below meth c Z own mname bytes maxL ret n0 Inv Sf T h locs cells slots) {k : Nat} {v : Int64} (hd : decode bytes pc = .ok (.lload k, 2)) (hl : Ls[k]? = some (.val (.long v))) (hp : pc + 2 = pc') (q : Run p.tables e below P T (mkF m pc' Ls (.long v :: st))) : Run p.tables e below P T (mkF m pc Ls (st)) := by
  subst hp; exact Run.of (fun _ k => XS.lload X.1.here X.hx rfl (hb X.hby hd) hl k) q
theorem k_lstoreN (X : WP p l e R s m args below meth c Z own mname bytes maxL ret n0 Inv Sf T h locs cells slots) {k : Fin 4} {v : Int64} (hd : decode bytes pc = .ok (.lstore_n k, 1)) (hl : storeLocals Ls k.val (.long v) = some Ls') (hp : pc + 1 = pc') (q : Run p.tables e below P T (mkF m pc' Ls' (st))) : Run p.tables e below P T (mkF m pc Ls (.long v :: st)) := by
  subst hp; exact Run.of (fun _ k => XS.lstoreN X.1.here X.hx rfl (hb X.hby hd) rfl hl k) q
theorem k_lstore (X : WP p l e R s m args below meth c Z own mname bytes maxL ret n0 Inv Sf T h locs cells slots) {k : Nat} {v : Int64} (hd : decode bytes pc = .ok (.lstore k, 2)) (hl : storeLocals Ls k (.long v) = some Ls') (hp : pc + 2 = pc') (q : Run p.tables e below P T (mkF m pc' Ls' (st))) : Run p.tables e below P T (mkF m pc Ls (.long v :: st)) := by
  subst hp; exact Run.of (fun _ k => XS.lstore X.1.here X.hx rfl (hb X.hby hd) rfl hl k) q
theorem k_lconst (X : WP p l e R s m args below meth c Z own mname bytes maxL ret n0 Inv Sf T h locs cells slots) {k : Fin 2} {w : Int64} (hd : decode bytes pc = .ok (.lconst k, 1)) (hv : Int64.ofNat k = w) (hp : pc + 1 = pc') (q : Run p.tables e below P T (mkF m pc' Ls (.long w :: st))) : Run p.tables e below P T (mkF m pc Ls (st)) := by
  subst hp; subst hv; exact Run.of (fun _ k => XS.lconst X.1.here X.hx rfl (hb X.hby hd)  k) q
theorem k_ladd (X : WP p l e R s m args below meth c Z own mname bytes maxL ret n0 Inv Sf T h locs cells slots) {x y w : Int64} (hd : decode bytes pc = .ok (.ladd, 1)) (hv : x + y = w) (hp : pc + 1 = pc') (q : Run p.tables e below P T (mkF m pc' Ls (.long w :: st))) : Run p.tables e below P T (mkF m pc Ls (.long y :: .long x :: st)) := by
  subst hp; subst hv; exact Run.of (fun _ k => XS.ladd X.1.here X.hx rfl (hb X.hby hd) rfl k) q
theorem k_lsub (X : WP p l e R s m args below meth c Z own mname bytes maxL ret n0 Inv Sf T h locs cells slots) {x y w : Int64} (hd : decode bytes pc = .ok (.lsub, 1)) (hv : x - y = w) (hp : pc + 1 = pc') (q : Run p.tables e below P T (mkF m pc' Ls (.long w :: st))) : Run p.tables e below P T (mkF m pc Ls (.long y :: .long x :: st)) := by
  subst hp; subst hv; exact Run.of (fun _ k => XS.lsub X.1.here X.hx rfl (hb X.hby hd) rfl k) q
theorem k_lmul (X : WP p l e R s m args below meth c Z own mname bytes maxL ret n0 Inv Sf T h locs cells slots) {x y w : Int64} (hd : decode bytes pc = .ok (.lmul, 1)) (hv : x * y = w) (hp : pc + 1 = pc') (q : Run p.tables e below P T (mkF m pc' Ls (.long w :: st))) : Run p.tables e below P T (mkF m pc Ls (.long y :: .long x :: st)) := by
  subst hp; subst hv; exact Run.of (fun _ k => XS.lmul X.1.here X.hx rfl (hb X.hby hd) rfl k) q
theorem k_land (X : WP p l e R s m args below meth c Z own mname bytes maxL ret n0 Inv Sf T h locs cells slots) {x y w : Int64} (hd : decode bytes pc = .ok (.land, 1)) (hv : x &&& y = w) (hp : pc + 1 = pc') (q : Run p.tables e below P T (mkF m pc' Ls (.long w :: st))) : Run p.tables e below P T (mkF m pc Ls (.long y :: .long x :: st)) := by
  subst hp; subst hv; exact Run.of (fun _ k => XS.land X.1.here X.hx rfl (hb X.hby hd) rfl k) q
theorem k_lor (X : WP p l e R s m args below meth c Z own mname bytes maxL ret n0 Inv Sf T h locs cells slots) {x y w : Int64} (hd : decode bytes pc = .ok (.lor, 1)) (hv : x ||| y = w) (hp : pc + 1 = pc') (q : Run p.tables e below P T (mkF m pc' Ls (.long w :: st))) : Run p.tables e below P T (mkF m pc Ls (.long y :: .long x :: st)) := by
  subst hp; subst hv; exact Run.of (fun _ k => XS.lor X.1.here X.hx rfl (hb X.hby hd) rfl k) q
theorem k_lxor (X : WP p l e R s m args below meth c Z own mname bytes maxL ret n0 Inv Sf T h locs cells slots) {x y w : Int64} (hd : decode bytes pc = .ok (.lxor, 1)) (hv : x ^^^ y = w) (hp : pc + 1 = pc') (q : Run p.tables e below P T (mkF m pc' Ls (.long w :: st))) : Run p.tables e below P T (mkF m pc Ls (.long y :: .long x :: st)) := by
  subst hp; subst hv; exact Run.of (fun _ k => XS.lxor X.1.here X.hx rfl (hb X.hby hd) rfl k) q
theorem k_lushr (X : WP p l e R s m args below meth c Z own mname bytes maxL ret n0 Inv Sf T h locs cells slots) {x w : Int64} {y : Int32} (hd : decode bytes pc = .ok (.lushr, 1)) (hv : ((x.toUInt64 >>> (y &&& 0x3f).toInt64.toUInt64).toInt64) = w) (hp : pc + 1 = pc') (q : Run p.tables e below P T (mkF m pc' Ls (.long w :: st))) : Run p.tables e below P T (mkF m pc Ls (.int y :: .long x :: st)) := by
  subst hp; subst hv; exact Run.of (fun _ k => XS.lushr X.1.here X.hx rfl (hb X.hby hd) rfl k) q
theorem k_i2l (X : WP p l e R s m args below meth c Z own mname bytes maxL ret n0 Inv Sf T h locs cells slots) {x : Int32} {w : Int64} (hd : decode bytes pc = .ok (.i2l, 1)) (hv : x.toInt64 = w) (hp : pc + 1 = pc') (q : Run p.tables e below P T (mkF m pc' Ls (.long w :: st))) : Run p.tables e below P T (mkF m pc Ls (.int x :: st)) := by
  subst hp; subst hv; exact Run.of (fun _ k => XS.i2l X.1.here X.hx rfl (hb X.hby hd) rfl k) q
theorem k_l2i (X : WP p l e R s m args below meth c Z own mname bytes maxL ret n0 Inv Sf T h locs cells slots) {x : Int64} {w : Int32} (hd : decode bytes pc = .ok (.l2i, 1)) (hv : x.toInt32 = w) (hp : pc + 1 = pc') (q : Run p.tables e below P T (mkF m pc' Ls (.int w :: st))) : Run p.tables e below P T (mkF m pc Ls (.long x :: st)) := by
  subst hp; subst hv; exact Run.of (fun _ k => XS.l2i X.1.here X.hx rfl (hb X.hby hd) rfl k) q
theorem k_lcmp (X : WP p l e R s m args below meth c Z own mname bytes maxL ret n0 Inv Sf T h locs cells slots) {x y : Int64} {w : Int32} (hd : decode bytes pc = .ok (.lcmp, 1)) (hv : (if x > y then 1 else if x = y then 0 else -1) = w) (hp : pc + 1 = pc') (q : Run p.tables e below P T (mkF m pc' Ls (.int w :: st))) : Run p.tables e below P T (mkF m pc Ls (.long y :: .long x :: st)) := by
  subst hp; subst hv; exact Run.of (fun _ k => XS.lcmp X.1.here X.hx rfl (hb X.hby hd) rfl k) q
theorem k_dup (X : WP p l e R s m args below meth c Z own mname bytes maxL ret n0 Inv Sf T h locs cells slots) {v : Value} (hd : decode bytes pc = .ok (.dup, 1)) (hc : v.category = 1) (hp : pc + 1 = pc') (q : Run p.tables e below P T (mkF m pc' Ls (v :: v :: st))) : Run p.tables e below P T (mkF m pc Ls (v :: st)) := by
  subst hp; exact Run.of (fun _ k => XS.dup X.1.here X.hx rfl (hb X.hby hd) rfl hc k) q
theorem k_pop (X : WP p l e R s m args below meth c Z own mname bytes maxL ret n0 Inv Sf T h locs cells slots) {v : Value} (hd : decode bytes pc = .ok (.pop, 1)) (hc : v.category = 1) (hp : pc + 1 = pc') (q : Run p.tables e below P T (mkF m pc' Ls (st))) : Run p.tables e below P T (mkF m pc Ls (v :: st)) := by
  subst hp; exact Run.of (fun _ k => XS.pop X.1.here X.hx rfl (hb X.hby hd) rfl hc k) q
theorem k_goto (X : WP p l e R s m args below meth c Z own mname bytes maxL ret n0 Inv Sf T h locs cells slots) {o : Int} (hd : decode bytes pc = .ok (.goto o, 3))  (ho : 0 ≤ (pc : Int) + o) (hp : ((pc : Int) + o).toNat = pc') (q : Run p.tables e below P T (mkF m pc' Ls (st))) : Run p.tables e below P T (mkF m pc Ls (st)) := by
  exact Run.of (fun _ k => XS.goto X.1.here X.hx rfl (pc0 := pc) (pc' := pc') rfl (hb X.hby hd)  ho hp k) q
theorem k_ifYes (X : WP p l e R s m args below meth c Z own mname bytes maxL ret n0 Inv Sf T h locs cells slots) {cd : ClassFile.Cond} {o : Int} {x : Int32} (hd : decode bytes pc = .ok (.ifCond cd o, 3)) (hc : ifCond.holds cd x = true) (ho : 0 ≤ (pc : Int) + o) (hp : ((pc : Int) + o).toNat = pc') (q : Run p.tables e below P T (mkF m pc' Ls (st))) : Run p.tables e below P T (mkF m pc Ls (.int x :: st)) := by
  exact Run.of (fun _ k => XS.ifYes X.1.here X.hx rfl (pc0 := pc) (pc' := pc') rfl (hb X.hby hd) rfl hc ho hp k) q
theorem k_ifNo (X : WP p l e R s m args below meth c Z own mname bytes maxL ret n0 Inv Sf T h locs cells slots) {cd : ClassFile.Cond} {o : Int} {x : Int32} (hd : decode bytes pc = .ok (.ifCond cd o, 3)) (hc : ifCond.holds cd x = false) (hp : pc + 3 = pc') (q : Run p.tables e below P T (mkF m pc' Ls (st))) : Run p.tables e below P T (mkF m pc Ls (.int x :: st)) := by
  subst hp; exact Run.of (fun _ k => XS.ifNo X.1.here X.hx rfl (hb X.hby hd) rfl hc k) q
theorem k_icmpYes (X : WP p l e R s m args below meth c Z own mname bytes maxL ret n0 Inv Sf T h locs cells slots) {cd : ClassFile.Cond} {o : Int} {x y : Int32} (hd : decode bytes pc = .ok (.if_icmp cd o, 3)) (hc : if_icmp.holds cd x y = true) (ho : 0 ≤ (pc : Int) + o) (hp : ((pc : Int) + o).toNat = pc') (q : Run p.tables e below P T (mkF m pc' Ls (st))) : Run p.tables e below P T (mkF m pc Ls (.int y :: .int x :: st)) := by
  exact Run.of (fun _ k => XS.icmpYes X.1.here X.hx rfl (pc0 := pc) (pc' := pc') rfl (hb X.hby hd) rfl hc ho hp k) q
theorem k_icmpNo (X : WP p l e R s m args below meth c Z own mname bytes maxL ret n0 Inv Sf T h locs cells slots) {cd : ClassFile.Cond} {o : Int} {x y : Int32} (hd : decode bytes pc = .ok (.if_icmp cd o, 3)) (hc : if_icmp.holds cd x y = false) (hp : pc + 3 = pc') (q : Run p.tables e below P T (mkF m pc' Ls (st))) : Run p.tables e below P T (mkF m pc Ls (.int y :: .int x :: st)) := by
  subst hp; exact Run.of (fun _ k => XS.icmpNo X.1.here X.hx rfl (hb X.hby hd) rfl hc k) q
theorem k_ifnullYes (X : WP p l e R s m args below meth c Z own mname bytes maxL ret n0 Inv Sf T h locs cells slots) {o : Int} (hd : decode bytes pc = .ok (.ifnull o, 3))  (ho : 0 ≤ (pc : Int) + o) (hp : ((pc : Int) + o).toNat = pc') (q : Run p.tables e below P T (mkF m pc' Ls (st))) : Run p.tables e below P T (mkF m pc Ls (.null :: st)) := by
  exact Run.of (fun _ k => XS.ifnullYes X.1.here X.hx rfl (pc0 := pc) (pc' := pc') rfl (hb X.hby hd) rfl ho hp k) q
theorem k_ifnullNo (X : WP p l e R s m args below meth c Z own mname bytes maxL ret n0 Inv Sf T h locs cells slots) {o : Int} {a : Addr} (hd : decode bytes pc = .ok (.ifnull o, 3))  (hp : pc + 3 = pc') (q : Run p.tables e below P T (mkF m pc' Ls (st))) : Run p.tables e below P T (mkF m pc Ls (.ref a :: st)) := by
  subst hp; exact Run.of (fun _ k => XS.ifnullNo X.1.here X.hx rfl (hb X.hby hd) rfl k) q
theorem k_ifnonnullYes (X : WP p l e R s m args below meth c Z own mname bytes maxL ret n0 Inv Sf T h locs cells slots) {o : Int} {a : Addr} (hd : decode bytes pc = .ok (.ifnonnull o, 3))  (ho : 0 ≤ (pc : Int) + o) (hp : ((pc : Int) + o).toNat = pc') (q : Run p.tables e below P T (mkF m pc' Ls (st))) : Run p.tables e below P T (mkF m pc Ls (.ref a :: st)) := by
  exact Run.of (fun _ k => XS.ifnonnullYes X.1.here X.hx rfl (pc0 := pc) (pc' := pc') rfl (hb X.hby hd) rfl ho hp k) q
theorem k_ifnonnullNo (X : WP p l e R s m args below meth c Z own mname bytes maxL ret n0 Inv Sf T h locs cells slots) {o : Int} (hd : decode bytes pc = .ok (.ifnonnull o, 3))  (hp : pc + 3 = pc') (q : Run p.tables e below P T (mkF m pc' Ls (st))) : Run p.tables e below P T (mkF m pc Ls (.null :: st)) := by
  subst hp; exact Run.of (fun _ k => XS.ifnonnullNo X.1.here X.hx rfl (hb X.hby hd) rfl k) q
theorem k_acmp (X : WP p l e R s m args below meth c Z own mname bytes maxL ret n0 Inv Sf T h locs cells slots) {cd : ACond} {x y : Value} {o : Int} (same : Bool) (hd : decode bytes pc = .ok (.if_acmp cd o, 3)) (h1 : x.isRef = true) (h2 : y.isRef = true) (hq : decide (x = y) = same) (ho : 0 ≤ (pc : Int) + o) (hp : pc' = if acV cd same = true then ((pc : Int) + o).toNat else pc + 3) (q : Run p.tables e below P T (mkF m pc' Ls st)) : Run p.tables e below P T (mkF m pc Ls (y :: x :: st)) :=
  Run.of (fun _ k => Jvm.RoadKit.acmp (g := mkF m pc Ls (y :: x :: st)) X.1 X.hx rfl h1 h2 (pc0 := pc) (pc' := pc') (same := same) rfl (hb X.hby hd) rfl hq ho hp k) q
theorem k_getF (X : WP p l e R s m args below meth c Z own mname bytes maxL ret n0 Inv Sf T h locs cells slots) {R0 O n d host : String} {index : Nat} {a : Addr} {v : Value} (hd : decode bytes pc = .ok (.getfield index, 3)) (w : (Cond.fieldLink own index R0 n d).before a0 Z = true ∨ (Cond.fieldLinkNest own index R0 n d host).before a0 Z = true) (via : Via Z R0 O n d) (F : Fld Z h a O n d v) (hp : pc + 3 = pc')
    (q : ∀ T', WP p l e R s m args below meth c Z own mname bytes maxL ret n0 Inv Sf T' h locs cells slots → Run p.tables e below P T' (mkF m pc' Ls (v :: st))) : Run p.tables e below P T (mkF m pc Ls (.ref a :: st)) := by
  subst hp
  obtain ⟨T', X', e', k⟩ := Jvm.RoadKit.getF X.1 X.hx X.hZ X.hown w via X.eT F (g := mkF m pc Ls (.ref a :: st)) rfl rfl (hb X.hby hd)
  exact Run.of k (q T' (X.same X' e'))
theorem k_getS (X : WP p l e R s m args below meth c Z own mname bytes maxL ret n0 Inv Sf T h locs cells slots) {R0 O n d host : String} {index : Nat} {v : Value} (hd : decode bytes pc = .ok (.getstatic index, 3)) (w : (Cond.fieldLink own index R0 n d).before a0 Z = true ∨ (Cond.fieldLinkNest own index R0 n d host).before a0 Z = true) (via : Via Z R0 O n d) (F : Sta Z h O n d v) (hp : pc + 3 = pc')
    (q : ∀ T', WP p l e R s m args below meth c Z own mname bytes maxL ret n0 Inv Sf T' h locs cells slots → Run p.tables e below P T' (mkF m pc' Ls (v :: st))) : Run p.tables e below P T (mkF m pc Ls st) := by
  subst hp
  obtain ⟨T', X', e', k⟩ := Jvm.RoadKit.getS2 X.1 X.hx X.hZ X.hown w via X.eT F (g := mkF m pc Ls st) rfl (hb X.hby hd)
  exact Run.of k (q T' (X.same X' e'))
theorem k_putF (X : WP p l e R s m args below meth c Z own mname bytes maxL ret n0 Inv Sf T h locs cells slots) {R0 O n d host C : String} {index kk : Nat} {ty : FieldType} {a : Addr} {v old : Value} (hd : decode bytes pc = .ok (.putfield index, 3)) (w : (Cond.fieldLink own index R0 n d).before a0 Z = true ∨ (Cond.fieldLinkNest own index R0 n d host).before a0 Z = true) (via : Via Z R0 O n d) (F : Fld Z h a O n d old) (E : Exa Z h a C)
    (L : (Cond.lays C O n d).before a0 Z = true ∨ ((Cond.laysFinal C O n d).before a0 Z = true ∧ own = O ∧ meth.name = "<init>")) (wi : (Cond.instantiable C kk).before a0 Z = true) (hty : parseFieldDescriptor d = some ty) (hn : narrow ty v = v) (hf : fits ty v = true) (hsf : Sf h a) (hge : n0 ≤ a) (hp : pc + 3 = pc')
    (q : ∀ T' h' L', WP p l e R s m args below meth c Z own mname bytes maxL ret n0 Inv Sf T' h' L' cells slots → Wr h h' a (Jvm.RoadKit.slotOf Z O n d) v → Keep h h' [a] → Run p.tables e below P T' (mkF m pc' Ls st)) : Run p.tables e below P T (mkF m pc Ls (v :: .ref a :: st)) := by
  subst hp
  obtain ⟨T', h', X', e', W, k⟩ := Jvm.RoadKit.putF X.1 X.hx X.hZ X.hown w via X.eT F E L wi hty hn hf (g := mkF m pc Ls (v :: .ref a :: st)) rfl rfl (hb X.hby hd)
  have K := Keep.of_wr W
  exact Run.of k (q T' h' _ (X.mv X' e' K (allS ⟨hsf, hge⟩ all0) (X.fr.app (fr1 hge))) W K)
theorem k_newO (X : WP p l e R s m args below meth c Z own mname bytes maxL ret n0 Inv Sf T h locs cells slots) {C : String} {index n : Nat} (hd : decode bytes pc = .ok (.new index, 3)) (w : (Cond.classLink own index C).before a0 Z = true) (wi : (Cond.instantiable C n).before a0 Z = true) (wz : (Cond.initialized C).before a0 Z = true) (hc : cells + 1 ≤ R.cells) (hl : slots + n ≤ R.slots) (hp : pc + 3 = pc')
    (q : ∀ T' h' (b : Nat), b = h.size → WP p l e R s m args below meth c Z own mname bytes maxL ret n0 Inv Sf T' h' locs (cells + 1) (slots + n) → Keep h h' [] → Exa Z h' b C → (∀ {O nm d : String} {ty : FieldType}, Laid Z a0 C O nm d → parseFieldDescriptor d = some ty → Fld Z h' b O nm d (defaultValue ty)) → Sf h' b → b < h'.size → n0 ≤ b → Run p.tables e below P T' (mkF m pc' Ls (.ref b :: st))) : Run p.tables e below P T (mkF m pc Ls st) := by
  subst hp
  obtain ⟨T', h', X', e', E, A, D, -, k⟩ := Jvm.RoadKit.newO X.1 X.hx X.hZ X.hown w wi wz X.eT (g := mkF m pc Ls st) rfl (hb X.hby hd) hc hl
  have K := ext_keep E
  exact Run.of k (q T' h' h.size rfl (X.mv X' e' K (fun _ q => nomatch q) X.fr) K A (fun L t => D L t) (X.sf K (fun _ q => nomatch q) (X.sfN (Nat.le_refl _))) (own_n A.lt) X.n0le)
theorem k_newP (X : WP p l e R s m args below meth c Z own mname bytes maxL ret n0 Inv Sf T h locs cells slots) {aty : ArrayType} {n : Int32} {cap : Nat} (hd : decode bytes pc = .ok (.newarray aty, 2)) (w : (Cond.arrayClass (newarray.typeOf aty)).before a0 Z = true) (hn : ¬ n < 0) (hcap : n.toNatClampNeg ≤ cap) (hb' : cap * 8 ≤ 536870912) (hc : cells + 1 ≤ R.cells) (hl : slots + cap ≤ R.slots) (hp : pc + 2 = pc')
    (q : ∀ T' h' (b : Nat) k, b = h.size → WP p l e R s m args below meth c Z own mname bytes maxL ret n0 Inv Sf T' h' locs (cells + 1) (slots + cap) → Keep h h' [] → Arv Z h' b k (newarray.typeOf aty) n [] (defaultValue (newarray.typeOf aty)) → Sf h' b → b < h'.size → n0 ≤ b → Run p.tables e below P T' (mkF m pc' Ls (.ref b :: st))) : Run p.tables e below P T (mkF m pc Ls (.int n :: st)) := by
  subst hp
  obtain ⟨T', h', cA, X', e', E, A, k⟩ := Jvm.RoadKit.newP X.1 X.hx X.hZ w X.eT (g := mkF m pc Ls (.int n :: st)) rfl (hb X.hby hd) rfl hn hcap hb' hc hl
  have K := ext_keep E
  exact Run.of k (q T' h' h.size cA rfl (X.mv X' e' K (fun _ q => nomatch q) X.fr) K (Arv.new A hn) (X.sf K (fun _ q => nomatch q) (X.sfN (Nat.le_refl _))) (own_n A.lt) X.n0le)
theorem k_arlen (X : WP p l e R s m args below meth c Z own mname bytes maxL ret n0 Inv Sf T h locs cells slots) {a : Addr} {k : ClassId} {ty : FieldType} {z : Int32} {vs : List Value} {d : Value} (hd : decode bytes pc = .ok (.arraylength, 1)) (A : Arv Z h a k ty z vs d) (hp : pc + 1 = pc') (q : Run p.tables e below P T (mkF m pc' Ls (.int z :: st))) : Run p.tables e below P T (mkF m pc Ls (.ref a :: st)) := by
  subst hp
  obtain ⟨cl, A, -, S, N, -, -⟩ := A
  refine Run.of (X.1.arraylength X.hx (by rw [X.eT]; exact A.1) (State.isArrayOf_alike X.hZ.alike A.2.1) (g := mkF m pc Ls (.ref a :: st)) rfl rfl (hb X.hby hd)) ?_
  rw [len_of S N]; exact q
theorem k_initO (X : WP p l e R s m args below meth c Z own mname bytes maxL ret n0 Inv Sf T h locs cells slots) {idx W : Nat} {a : Addr} (hd : decode bytes pc = .ok (.invokespecial idx, 3)) (w1 : (Cond.methodLink own idx Lib.objectInit).before a0 Z = true) (w2 : (Cond.instanceMethod Lib.objectInit).before a0 Z = true) (w3 : (Cond.code Lib.objectInit ⟨#[0xb1]⟩ 1 none).before a0 Z = true)
    (hsz : Ls.size = maxL) (hf : 1 ≤ R.frames) (hW : (st.map fun v => v.category).sum ≤ W) (hl : W + 12 ≤ R.locals) (hp : pc + 3 = pc')
    (q : ∀ T', WP p l e R s m args below meth c Z own mname bytes maxL ret n0 Inv Sf T' h locs cells slots → Run p.tables e below P T' (mkF m pc' Ls st)) : Run p.tables e below P T (mkF m pc Ls (.ref a :: st)) := by
  subst hp
  obtain ⟨T', X', e', k⟩ := Jvm.RoadKit.initO X.1 X.hx X.hZ X.hown w1 w2 w3 X.eT (g := mkF m pc Ls (.ref a :: st)) rfl (by rw [X.hml]; exact hsz) rfl (hb X.hby hd) hf (W := W) (by show 2 * 0 + _ ≤ _; omega) hl
  exact Run.of k (q T' (X.same X' e'))
theorem k_castY (X : WP p l e R s m args below meth c Z own mname bytes maxL ret n0 Inv Sf T h locs cells slots) {K : String} {index : Nat} {a : Addr} (hd : decode bytes pc = .ok (.checkcast index, 3)) (w : (Cond.classLink own index K).before a0 Z = true) (F : Ins Z h a K true) (hp : pc + 3 = pc')
    (q : ∀ T', WP p l e R s m args below meth c Z own mname bytes maxL ret n0 Inv Sf T' h locs cells slots → Run p.tables e below P T' (mkF m pc' Ls (.ref a :: st))) : Run p.tables e below P T (mkF m pc Ls (.ref a :: st)) := by
  subst hp
  obtain ⟨T', X', e', k⟩ := Jvm.RoadKit.castY X.1 X.hx X.hZ X.hown w X.eT F (g := mkF m pc Ls (.ref a :: st)) rfl rfl (hb X.hby hd)
  exact Run.of k (q T' (X.same X' e'))
theorem k_instY (X : WP p l e R s m args below meth c Z own mname bytes maxL ret n0 Inv Sf T h locs cells slots) {K : String} {index : Nat} {a : Addr} (hd : decode bytes pc = .ok (.instanceof index, 3)) (w : (Cond.classLink own index K).before a0 Z = true) (F : Ins Z h a K true) (hp : pc + 3 = pc')
    (q : ∀ T', WP p l e R s m args below meth c Z own mname bytes maxL ret n0 Inv Sf T' h locs cells slots → Run p.tables e below P T' (mkF m pc' Ls (.int 1 :: st))) : Run p.tables e below P T (mkF m pc Ls (.ref a :: st)) := by
  subst hp
  obtain ⟨T', X', e', k⟩ := Jvm.RoadKit.instY X.1 X.hx X.hZ X.hown w X.eT F (g := mkF m pc Ls (.ref a :: st)) rfl rfl (hb X.hby hd)
  exact Run.of k (q T' (X.same X' e'))
theorem k_castore (X : WP p l e R s m args below meth c Z own mname bytes maxL ret n0 Inv Sf T h locs cells slots) {a : Addr} {k : ClassId} {z j x w : Int32} {vs : List Value} {d : Value} (i : Nat) (hd : decode bytes pc = .ok (.castore, 1)) (A : Arv Z h a k .char z vs d) (hj0 : ¬ j < 0) (hjz : j < z) (hj : j.toNatClampNeg = i) (hi : i < vs.length) (hw : nar .char x = w) {vs' : List Value} (hvs : vs.set i (.int w) = vs') (hsf : Sf h a) (hge : n0 ≤ a) (hp : pc + 1 = pc')
    (q : ∀ T' h' L', WP p l e R s m args below meth c Z own mname bytes maxL ret n0 Inv Sf T' h' L' cells slots → Keep h h' [a] → Arv Z h' a k .char z vs' d → Run p.tables e below P T' (mkF m pc' Ls st)) : Run p.tables e below P T (mkF m pc Ls (.int x :: .int j :: .ref a :: st)) := by
  subst hp hw hvs
  obtain ⟨cl, A, q1, S, N, H, G⟩ := A
  obtain ⟨T', h', X', e', W, kk⟩ := Jvm.RoadKit.stC X.1 X.hx X.hZ X.eT A (j := j) (inb_of S ⟨hj0, hjz⟩) (g := mkF m pc Ls (.int x :: .int j :: .ref a :: st)) rfl rfl (hb X.hby hd)
  have K := Keep.of_wr W
  exact Run.of kk (q T' h' _ (X.mv X' e' K (allS ⟨hsf, hge⟩ all0) (X.fr.app (fr1 hge))) K (Arv.set A q1 S N H G (fits_nar_char _) W i hj hi))
theorem k_bastore (X : WP p l e R s m args below meth c Z own mname bytes maxL ret n0 Inv Sf T h locs cells slots) {a : Addr} {k : ClassId} {z j x w : Int32} {vs : List Value} {d : Value} (i : Nat) (hd : decode bytes pc = .ok (.bastore, 1)) (A : Arv Z h a k .byte z vs d) (hj0 : ¬ j < 0) (hjz : j < z) (hj : j.toNatClampNeg = i) (hi : i < vs.length) (hw : nar .byte x = w) {vs' : List Value} (hvs : vs.set i (.int w) = vs') (hsf : Sf h a) (hge : n0 ≤ a) (hp : pc + 1 = pc')
    (q : ∀ T' h' L', WP p l e R s m args below meth c Z own mname bytes maxL ret n0 Inv Sf T' h' L' cells slots → Keep h h' [a] → Arv Z h' a k .byte z vs' d → Run p.tables e below P T' (mkF m pc' Ls st)) : Run p.tables e below P T (mkF m pc Ls (.int x :: .int j :: .ref a :: st)) := by
  subst hp hw hvs
  obtain ⟨cl, A, q1, S, N, H, G⟩ := A
  obtain ⟨T', h', X', e', W, kk⟩ := Jvm.RoadKit.stB X.1 X.hx X.hZ X.eT A (j := j) (inb_of S ⟨hj0, hjz⟩) (g := mkF m pc Ls (.int x :: .int j :: .ref a :: st)) rfl rfl (hb X.hby hd)
  have K := Keep.of_wr W
  exact Run.of kk (q T' h' _ (X.mv X' e' K (allS ⟨hsf, hge⟩ all0) (X.fr.app (fr1 hge))) K (Arv.set A q1 S N H G (fits_nar_byte _) W i hj hi))
theorem k_iastore (X : WP p l e R s m args below meth c Z own mname bytes maxL ret n0 Inv Sf T h locs cells slots) {a : Addr} {k : ClassId} {z j x w : Int32} {vs : List Value} {d : Value} (i : Nat) (hd : decode bytes pc = .ok (.iastore, 1)) (A : Arv Z h a k .int z vs d) (hj0 : ¬ j < 0) (hjz : j < z) (hj : j.toNatClampNeg = i) (hi : i < vs.length) (hw : x = w) {vs' : List Value} (hvs : vs.set i (.int w) = vs') (hsf : Sf h a) (hge : n0 ≤ a) (hp : pc + 1 = pc')
    (q : ∀ T' h' L', WP p l e R s m args below meth c Z own mname bytes maxL ret n0 Inv Sf T' h' L' cells slots → Keep h h' [a] → Arv Z h' a k .int z vs' d → Run p.tables e below P T' (mkF m pc' Ls st)) : Run p.tables e below P T (mkF m pc Ls (.int x :: .int j :: .ref a :: st)) := by
  subst hp hw hvs
  obtain ⟨cl, A, q1, S, N, H, G⟩ := A
  obtain ⟨T', h', X', e', W, kk⟩ := Jvm.RoadKit.stI X.1 X.hx X.hZ X.eT A (j := j) (inb_of S ⟨hj0, hjz⟩) (g := mkF m pc Ls (.int x :: .int j :: .ref a :: st)) rfl rfl (hb X.hby hd)
  have K := Keep.of_wr W
  exact Run.of kk (q T' h' _ (X.mv X' e' K (allS ⟨hsf, hge⟩ all0) (X.fr.app (fr1 hge))) K (Arv.set A q1 S N H G rfl W i hj hi))
theorem k_caload (X : WP p l e R s m args below meth c Z own mname bytes maxL ret n0 Inv Sf T h locs cells slots) {a : Addr} {k : ClassId} {z j : Int32} {vs : List Value} {d v : Value} (hd : decode bytes pc = .ok (.caload, 1)) (A : Arv Z h a k .char z vs d) (hj0 : ¬ j < 0) (hjz : j < z) (hv : vs.getD j.toNatClampNeg d = v) (hp : pc + 1 = pc') (q : Run p.tables e below P T (mkF m pc' Ls (v :: st))) : Run p.tables e below P T (mkF m pc Ls (.int j :: .ref a :: st)) := by
  subst hp
  obtain ⟨cl, A, q1, S, N, H, G⟩ := A
  exact Run.of (X.1.caload X.hx (j := j) (v := v) (by rw [X.eT]; exact A.1) (State.isArrayOf_alike X.hZ.alike A.2.1) A.2.2 (inb_of S ⟨hj0, hjz⟩) (H.at (inb_of S ⟨hj0, hjz⟩) hv) (g := mkF m pc Ls (.int j :: .ref a :: st)) rfl rfl (hb X.hby hd)) q
theorem k_baload (X : WP p l e R s m args below meth c Z own mname bytes maxL ret n0 Inv Sf T h locs cells slots) {a : Addr} {k : ClassId} {z j : Int32} {vs : List Value} {d v : Value} (hd : decode bytes pc = .ok (.baload, 1)) (A : Arv Z h a k .byte z vs d) (hj0 : ¬ j < 0) (hjz : j < z) (hv : vs.getD j.toNatClampNeg d = v) (hp : pc + 1 = pc') (q : Run p.tables e below P T (mkF m pc' Ls (v :: st))) : Run p.tables e below P T (mkF m pc Ls (.int j :: .ref a :: st)) := by
  subst hp
  obtain ⟨cl, A, q1, S, N, H, G⟩ := A
  exact Run.of (X.1.baloadBytes X.hx (j := j) (v := v) (by rw [X.eT]; exact A.1) (State.isArrayOf_alike X.hZ.alike A.2.1) A.2.2 (inb_of S ⟨hj0, hjz⟩) (H.at (inb_of S ⟨hj0, hjz⟩) hv) (g := mkF m pc Ls (.int j :: .ref a :: st)) rfl rfl (hb X.hby hd)) q
theorem k_iaload (X : WP p l e R s m args below meth c Z own mname bytes maxL ret n0 Inv Sf T h locs cells slots) {a : Addr} {k : ClassId} {z j : Int32} {vs : List Value} {d v : Value} (hd : decode bytes pc = .ok (.iaload, 1)) (A : Arv Z h a k .int z vs d) (hj0 : ¬ j < 0) (hjz : j < z) (hv : vs.getD j.toNatClampNeg d = v) (hp : pc + 1 = pc') (q : Run p.tables e below P T (mkF m pc' Ls (v :: st))) : Run p.tables e below P T (mkF m pc Ls (.int j :: .ref a :: st)) := by
  subst hp
  obtain ⟨cl, A, q1, S, N, H, G⟩ := A
  exact Run.of (X.1.iaload X.hx (j := j) (v := v) (by rw [X.eT]; exact A.1) (State.isArrayOf_alike X.hZ.alike A.2.1) A.2.2 (inb_of S ⟨hj0, hjz⟩) (H.at (inb_of S ⟨hj0, hjz⟩) hv) (g := mkF m pc Ls (.int j :: .ref a :: st)) rfl rfl (hb X.hby hd)) q
theorem k_laload (X : WP p l e R s m args below meth c Z own mname bytes maxL ret n0 Inv Sf T h locs cells slots) {a : Addr} {k : ClassId} {z j : Int32} {vs : List Value} {d v : Value} (hd : decode bytes pc = .ok (.laload, 1)) (A : Arv Z h a k .long z vs d) (hj0 : ¬ j < 0) (hjz : j < z) (hv : vs.getD j.toNatClampNeg d = v) (hp : pc + 1 = pc') (q : Run p.tables e below P T (mkF m pc' Ls (v :: st))) : Run p.tables e below P T (mkF m pc Ls (.int j :: .ref a :: st)) := by
  subst hp
  obtain ⟨cl, A, q1, S, N, H, G⟩ := A
  exact Run.of (X.1.laload X.hx (j := j) (v := v) (by rw [X.eT]; exact A.1) (State.isArrayOf_alike X.hZ.alike A.2.1) A.2.2 (inb_of S ⟨hj0, hjz⟩) (H.at (inb_of S ⟨hj0, hjz⟩) hv) (g := mkF m pc Ls (.int j :: .ref a :: st)) rfl rfl (hb X.hby hd)) q
theorem k_aaload (X : WP p l e R s m args below meth c Z own mname bytes maxL ret n0 Inv Sf T h locs cells slots) {a : Addr} {k : ClassId} {z j : Int32} {vs : List Value} {d v : Value} {ty : FieldType} (hd : decode bytes pc = .ok (.aaload, 1)) (A : Arv Z h a k ty z vs d) (hr : ty.isReference = true) (hj0 : ¬ j < 0) (hjz : j < z) (hv : vs.getD j.toNatClampNeg d = v) (hp : pc + 1 = pc') (q : Run p.tables e below P T (mkF m pc' Ls (v :: st))) : Run p.tables e below P T (mkF m pc Ls (.int j :: .ref a :: st)) := by
  subst hp
  obtain ⟨cl, A, q1, S, N, H, G⟩ := A
  exact Run.of (X.1.aaload X.hx (j := j) (v := v) (by rw [X.eT]; exact A.1) (State.isArrayOf_alike X.hZ.alike A.2.1) hr A.2.2 (inb_of S ⟨hj0, hjz⟩) (H.at (inb_of S ⟨hj0, hjz⟩) hv) (g := mkF m pc Ls (.int j :: .ref a :: st)) rfl rfl (hb X.hby hd)) q
theorem k_castNull (X : WP p l e R s m args below meth c Z own mname bytes maxL ret n0 Inv Sf T h locs cells slots) {index : Nat} (hd : decode bytes pc = .ok (.checkcast index, 3)) (hp : pc + 3 = pc') (q : Run p.tables e below P T (mkF m pc' Ls (.null :: st))) : Run p.tables e below P T (mkF m pc Ls (.null :: st)) := by
  subst hp; exact Run.of (X.1.checkcastNull X.hx (g := mkF m pc Ls (.null :: st)) rfl rfl (hb X.hby hd)) q
theorem k_instNull (X : WP p l e R s m args below meth c Z own mname bytes maxL ret n0 Inv Sf T h locs cells slots) {index : Nat} (hd : decode bytes pc = .ok (.instanceof index, 3)) (hp : pc + 3 = pc') (q : Run p.tables e below P T (mkF m pc' Ls (.int 0 :: st))) : Run p.tables e below P T (mkF m pc Ls (.null :: st)) := by
  subst hp; exact Run.of (X.1.instanceofNull X.hx (g := mkF m pc Ls (.null :: st)) rfl rfl (hb X.hby hd)) q
theorem k_clone (X : WP p l e R s m args below meth c Z own mname bytes maxL ret n0 Inv Sf T h locs cells slots) {ad : String} {index W cap : Nat} {a : Addr} {k : ClassId} {ty : FieldType} {z : Int32} {vs : List Value} {d : Value} (hd : decode bytes pc = .ok (.invokevirtual index, 3)) (w1 : (Cond.methodLink own index ⟨ad, "clone", "()Ljava/lang/Object;"⟩).before a0 Z = true) (w2 : (Cond.sameMethod ad "java/lang/Object" "clone" "()Ljava/lang/Object;").before a0 Z = true) (w3 : (Cond.native ⟨"java/lang/Object", "clone", "()Ljava/lang/Object;"⟩).before a0 Z = true)
    (w4 : (Cond.instanceMethod ⟨"java/lang/Object", "clone", "()Ljava/lang/Object;"⟩).before a0 Z = true) (w5 : (Cond.selects ad ⟨ad, "clone", "()Ljava/lang/Object;"⟩ ⟨"java/lang/Object", "clone", "()Ljava/lang/Object;"⟩).before a0 Z = true) (w6 : (Cond.castable ad "java/lang/Cloneable").before a0 Z = true) (F : Arv Z h a k ty z vs d) (E : Exa Z h a ad) (hsz : Ls.size = maxL)
    (hf : 1 ≤ R.frames) (hW : (st.map fun v => v.category).sum ≤ W) (hl : W + 14 ≤ R.locals) (hcap : z.toNatClampNeg ≤ cap) (hc : cells + 1 ≤ R.cells) (hsl : slots + cap ≤ R.slots) (hp : pc + 3 = pc')
    (q : ∀ T' h' (b : Nat), b = h.size → WP p l e R s m args below meth c Z own mname bytes maxL ret n0 Inv Sf T' h' locs (cells + 1) (slots + cap) → Keep h h' [] → Arv Z h' b k ty z vs d → Exa Z h' b ad → Sf h' b → b < h'.size → n0 ≤ b → Run p.tables e below P T' (mkF m pc' Ls (.ref b :: st))) : Run p.tables e below P T (mkF m pc Ls (.ref a :: st)) := by
  subst hp
  obtain ⟨T', h', X', e', E', A', B', kk⟩ := Jvm.RoadKit.cloneH X.1 X.hx X.hZ X.hown w1 w2 w3 w4 w5 w6 X.eT F.arh E (g := mkF m pc Ls (.ref a :: st)) rfl (by rw [X.hml]; exact hsz) rfl (hb X.hby hd) hf (W := W) (by show 2 * 0 + _ ≤ _; omega) hl hcap hc hsl
  have K := ext_keep E'
  exact Run.of kk (q T' h' h.size rfl (X.mv X' e' K (fun _ q => nomatch q) X.fr) K A' B' (X.sf K (fun _ q => nomatch q) (X.sfN (Nat.le_refl _))) (own_n B'.lt) X.n0le)
theorem k_copy (X : WP p l e R s m args below meth c Z own mname bytes maxL ret n0 Inv Sf T h locs cells slots) {index W : Nat} {a b : Addr} {k k' : ClassId} {ty : FieldType} {z z' sp dp nn : Int32} {vs vd vd' : List Value} {dv dd : Value} (hd : decode bytes pc = .ok (.invokestatic index, 3)) (w1 : (Cond.methodLink own index Jvm.Stand.acN).before a0 Z = true) (w2 : (Cond.native Jvm.Stand.acN).before a0 Z = true) (w3 : (Cond.static Jvm.Stand.acN).before a0 Z = true) (w4 : (Cond.initialized "java/lang/System").before a0 Z = true) (A : Arv Z h a k ty z vs dv) (B : Arv Z h b k' ty z' vd dd) (hty : refKind ty = false)
    (h1 : ¬ sp < 0) (h2 : ¬ dp < 0) (h3 : ¬ nn < 0) (h4 : sp.toNatClampNeg + nn.toNatClampNeg ≤ z.toNatClampNeg) (h5 : dp.toNatClampNeg + nn.toNatClampNeg ≤ z'.toNatClampNeg) (hl : dp.toNatClampNeg + nn.toNatClampNeg ≤ vd.length) (hvd : vd.take dp.toNatClampNeg ++ (List.range nn.toNatClampNeg).map (fun i => vs.getD (sp.toNatClampNeg + i) dv) ++ vd.drop (dp.toNatClampNeg + nn.toNatClampNeg) = vd') (hsf : Sf h b) (hge : n0 ≤ b) (hsz : Ls.size = maxL) (hf : 1 ≤ R.frames) (hW : (st.map fun v => v.category).sum ≤ W) (hlo : W + 18 ≤ R.locals) (hp : pc + 3 = pc')
    (q : ∀ T' h' L', WP p l e R s m args below meth c Z own mname bytes maxL ret n0 Inv Sf T' h' L' cells slots → Keep h h' [b] → Arv Z h' b k' ty z' vd' dd → Run p.tables e below P T' (mkF m pc' Ls st)) : Run p.tables e below P T (mkF m pc Ls (.int nn :: .int dp :: .ref b :: .int sp :: .ref a :: st)) := by
  subst hp hvd
  have hnw : nativeFrameWords "java/lang/System" "arraycopy" 5 = 7 := by decide
  obtain ⟨T', h', L', X', e', N, K, A', kk⟩ := Jvm.RoadKit.cpA X.1 X.hx X.hZ X.hown w1 w2 w3 w4 X.eT A B (Or.inl ⟨rfl, hty⟩) h1 h2 h3 h4 h5 rfl hl X.fr hge (g := mkF m pc Ls (.int nn :: .int dp :: .ref b :: .int sp :: .ref a :: st)) rfl (by rw [X.hml]; exact hsz) rfl (hb X.hby hd) hf (W := W) (by show 2 * 0 + _ ≤ _; omega) (by rw [hnw]; exact hlo)
  exact Run.of kk (q T' h' L' (X.mv X' e' K (allS ⟨hsf, hge⟩ all0) N) K A')
theorem k_lastore (X : WP p l e R s m args below meth c Z own mname bytes maxL ret n0 Inv Sf T h locs cells slots) {a : Addr} {k : ClassId} {z j : Int32} {x : Int64} {vs : List Value} {d : Value} (i : Nat) (hd : decode bytes pc = .ok (.lastore, 1)) (A : Arv Z h a k .long z vs d) (hj0 : ¬ j < 0) (hjz : j < z) (hj : j.toNatClampNeg = i) (hi : i < vs.length) {vs' : List Value} (hvs : vs.set i (.long x) = vs') (hsf : Sf h a) (hge : n0 ≤ a) (hp : pc + 1 = pc')
    (q : ∀ T' h' L', WP p l e R s m args below meth c Z own mname bytes maxL ret n0 Inv Sf T' h' L' cells slots → Keep h h' [a] → Arv Z h' a k .long z vs' d → Run p.tables e below P T' (mkF m pc' Ls st)) : Run p.tables e below P T (mkF m pc Ls (.long x :: .int j :: .ref a :: st)) := by
  subst hp hvs
  obtain ⟨cl, A, q1, S, N, H, G⟩ := A
  obtain ⟨T', h', X', e', W, kk⟩ := Jvm.RoadKit.stJ X.1 X.hx X.hZ X.eT A (j := j) (inb_of S ⟨hj0, hjz⟩) (g := mkF m pc Ls (.long x :: .int j :: .ref a :: st)) rfl rfl (hb X.hby hd)
  have K := Keep.of_wr W
  exact Run.of kk (q T' h' _ (X.mv X' e' K (allS ⟨hsf, hge⟩ all0) (X.fr.app (fr1 hge))) K (Arv.set A q1 S N H G rfl W i hj hi))
theorem k_ldc2 (X : WP p l e R s m args below meth c Z own mname bytes maxL ret n0 Inv Sf T h locs cells slots) {index : Nat} {v : Int64} (hd : decode bytes pc = .ok (.ldc2_w index, 3)) (w : (Cond.constantLong own index v).before a0 Z = true) (hp : pc + 3 = pc') (q : Run p.tables e below P T (mkF m pc' Ls (.long v :: st))) : Run p.tables e below P T (mkF m pc Ls st) := by
  subst hp; exact Run.of (X.1.ldc2Long X.hx X.hown (mvT X.hZ w) (g := mkF m pc Ls st) rfl (hb X.hby hd)) q
theorem k_ldcI (X : WP p l e R s m args below meth c Z own mname bytes maxL ret n0 Inv Sf T h locs cells slots) {index : Nat} {v : Int32} (hd : decode bytes pc = .ok (.ldc index, 2)) (w : (Cond.constant own index v).before a0 Z = true) (hp : pc + 2 = pc') (q : Run p.tables e below P T (mkF m pc' Ls (.int v :: st))) : Run p.tables e below P T (mkF m pc Ls st) := by
  subst hp; exact Run.of (X.1.ldcInt X.hx X.hown (mvT X.hZ w) (g := mkF m pc Ls st) rfl (hb X.hby hd)) q
/-- the contract of a body that interns nothing -/
def MetF (l : Launch) (tw : List Jvm.Cond) (Z : State) (n0 : Nat) (y : MethodName) (bytes : ByteArray) (maxL : Nat) (ret : Option FieldType) (rm : Room) (as' : Array Value) (h : Heap) (ws : List Addr) (Q : Option Value → Heap → Prop) : Prop :=
  MetFree l y (head1 (Jvm.Cond.code y bytes maxL ret :: tw) rm) (fun a U => a = as' ∧ Z.Warmed39 U.vm ∧ U.heap = h) (fun _ _ _ _ _ => True) (fun _ U o U' => ∃ v L, o = .returned v ∧ ((Keep h U'.heap ws ∧ Q v U'.heap) ∧ Fr n0 L) ∧ FrameEnd U o U' L rm.cells rm.slots)
/-- its end -/
def PF (s : State) (below : List Frame) (n0 : Nat) (h0 : Heap) (ws : List Addr) (Q : Option Value → Heap → Prop) (k n : Nat) (t : State) : Prop := ∃ o, t.status = .running ∧ Ended t below o ∧ ∃ v L, o = .returned v ∧ ((Keep h0 t.heap ws ∧ Q v t.heap) ∧ Fr n0 L) ∧ FrameEnd s o t L k n
theorem clF (Z : State) : Cl Z (fun _ => True) (fun _ _ => True) := ⟨fun _ _ _ _ _ _ => ⟨trivial, fun _ _ => trivial⟩, fun _ _ _ => trivial, fun _ _ _ _ _ _ => trivial, fun _ _ _ _ _ _ => trivial⟩
theorem MetF.mono {l : Launch} {tw : List Jvm.Cond} {Z : State} {n0 : Nat} {y : MethodName} {bytes : ByteArray} {maxL : Nat} {ret : Option FieldType} {rm : Room} {as' : Array Value} {h : Heap} {ws : List Addr} {Q Q' : Option Value → Heap → Prop} (hM : MetF l tw Z n0 y bytes maxL ret rm as' h ws Q) (hq : ∀ r h', Q r h' → Q' r h') : MetF l tw Z n0 y bytes maxL ret rm as' h ws Q' := by
  intro p e ha hc hk s m args below hf happ hP hK
  obtain ⟨n, o, r1, r2, r3, v, L, e1, ⟨⟨K, q⟩, N⟩, r4⟩ := hM p e ha hc hk s m args below hf happ hP hK
  exact ⟨n, o, r1, r2, r3, v, L, e1, ⟨⟨K, hq _ _ q⟩, N⟩, r4⟩
theorem metF {y : MethodName} {bytes : ByteArray} {maxL : Nat} {ret : Option FieldType} {rm : Room} {as' : Array Value} {ws : List Addr} {Q : Option Value → Heap → Prop} {tw : List Jvm.Cond} (hpl : plainFor y = true) (Z0 : Old Z n0 h) {Ls : Array Slot} (hef : ∀ m, entryFrame m as' maxL = mkF m 0 Ls [])
    (body : ∀ p e s m below meth c T, WP p l e rm s m as' below meth c Z y.cls y.name bytes maxL ret n0 (fun _ => True) (fun _ _ => True) T h [] 0 0 → Run p.tables e below (PF s below n0 h ws Q rm.cells rm.slots) T (mkF m 0 Ls [])) : MetF l tw Z n0 y bytes maxL ret rm as' h ws Q := by
  refine MetFree.of_bodySF hpl hisR ?_
  intro p e s m args below meth c s₁ Bd hml0 hP hK
  obtain ⟨rfl, hZ, hh⟩ := hP
  have e0 : s₁.heap = h := by rw [← hh, Bd.state]; rfl
  obtain ⟨t, hs, o, hr, he, hq⟩ := body p e s m below meth c s₁ ⟨Stand.of_body Bd, e0, hZ, findClass_of_methodNamed Bd.named, Fr.nil n0, Z0, trivial, ⟨Bd.exec, Bd.bytes, hml0, Bd.returns, BodyLoose.notSynchronized Bd, (name_of_methodNamed Bd.named Bd.method).1⟩, clF Z⟩
  rw [← hef] at hs
  exact ⟨t, o, hs, hr, he, hq⟩

theorem k_retFI (X : WP p l e R s m args below meth c Z own mname bytes maxL ret n0 Inv Sf T h locs cells slots) {z : Int32} {ws : List Addr} {Q : Option Value → Heap → Prop} {k n : Nat} {h0 : Heap} (hd : decode bytes pc = .ok (.ireturn, 1)) (hr : ret = some .int) (K : Keep h0 h ws) (hQ : Q (some (.int z)) h) (hk : cells ≤ k) (hs : slots ≤ n) : Run p.tables e below (PF s below n0 h0 ws Q k n) T (mkF m pc Ls (.int z :: st)) := by
  have hlk := X.hlk
  obtain ⟨fs, hl, hrun, hended, hW, hsame⟩ := X.1.leave (v := some (.int z)) (fun q => by rw [X.hret, hr] at q; cases q)
  refine ⟨_, Jvm.RoadKit.retI X.1 X.hx (X.hret.trans hr) (hb X.hby hd) hl, _, hrun, hended, _, _, rfl, ⟨⟨?_, ?_⟩, X.fr⟩, ⟨_, rfl⟩, hW, hsame.mono hk hs⟩
  · show Keep h0 T.heap ws; rw [X.eT]; exact K
  · show Q _ T.heap; rw [X.eT]; exact hQ
theorem k_retFN (X : WP p l e R s m args below meth c Z own mname bytes maxL ret n0 Inv Sf T h locs cells slots) {z w : Int32} {ws : List Addr} {Q : Option Value → Heap → Prop} {k n : Nat} {h0 : Heap} (hd : decode bytes pc = .ok (.ireturn, 1)) {t : FieldType} (hr : ret = some t) (ht : t = .boolean ∨ t = .byte ∨ t = .char ∨ t = .short) (hnz : nar t z = w) (K : Keep h0 h ws) (hQ : Q (some (.int w)) h) (hk : cells ≤ k) (hs : slots ≤ n) : Run p.tables e below (PF s below n0 h0 ws Q k n) T (mkF m pc Ls (.int z :: st)) := by
  have hlk := X.hlk
  obtain ⟨fs, hl, hrun, hended, hW, hsame⟩ := X.1.leave (v := some (.int w)) (fun q => by rw [X.hret, hr] at q; cases q)
  refine ⟨_, Jvm.RoadKit.retN X.1 X.hx (X.hret.trans hr) ht (hb X.hby hd) (by rw [hnz]; exact hl), _, hrun, hended, _, _, rfl, ⟨⟨?_, ?_⟩, X.fr⟩, ⟨_, rfl⟩, hW, hsame.mono hk hs⟩
  · show Keep h0 T.heap ws; rw [X.eT]; exact K
  · show Q _ T.heap; rw [X.eT]; exact hQ
theorem k_retFJ (X : WP p l e R s m args below meth c Z own mname bytes maxL ret n0 Inv Sf T h locs cells slots) {z : Int64} {ws : List Addr} {Q : Option Value → Heap → Prop} {k n : Nat} {h0 : Heap} (hd : decode bytes pc = .ok (.lreturn, 1)) (hr : ret = some .long) (K : Keep h0 h ws) (hQ : Q (some (.long z)) h) (hk : cells ≤ k) (hs : slots ≤ n) : Run p.tables e below (PF s below n0 h0 ws Q k n) T (mkF m pc Ls (.long z :: st)) := by
  have hlk := X.hlk
  obtain ⟨fs, hl, hrun, hended, hW, hsame⟩ := X.1.leave (v := some (.long z)) (fun q => by rw [X.hret, hr] at q; cases q)
  refine ⟨_, Jvm.RoadKit.retOut X.1 X.hx (X.hret.trans hr) rfl (Or.inr (Or.inl ⟨rfl, rfl, _, rfl⟩)) (hb X.hby hd) hl, _, hrun, hended, _, _, rfl, ⟨⟨?_, ?_⟩, X.fr⟩, ⟨_, rfl⟩, hW, hsame.mono hk hs⟩
  · show Keep h0 T.heap ws; rw [X.eT]; exact K
  · show Q _ T.heap; rw [X.eT]; exact hQ
theorem k_retFA (X : WP p l e R s m args below meth c Z own mname bytes maxL ret n0 Inv Sf T h locs cells slots) {v : Value} {ws : List Addr} {Q : Option Value → Heap → Prop} {k n : Nat} {h0 : Heap} (hd : decode bytes pc = .ok (.areturn, 1)) {t : FieldType} (hr : ret = some t) (hn : narrow t v = v) (ht : t.isReference = true) (hv : v.isRef = true) (K : Keep h0 h ws) (hQ : Q (some (v)) h) (hk : cells ≤ k) (hs : slots ≤ n) : Run p.tables e below (PF s below n0 h0 ws Q k n) T (mkF m pc Ls (v :: st)) := by
  have hlk := X.hlk
  obtain ⟨fs, hl, hrun, hended, hW, hsame⟩ := X.1.leave (v := some (v)) (fun q => by rw [X.hret, hr] at q; cases q)
  refine ⟨_, Jvm.RoadKit.retOut X.1 X.hx (X.hret.trans hr) hn (Or.inr (Or.inr (Or.inr (Or.inr ⟨rfl, ht, hv⟩)))) (hb X.hby hd) hl, _, hrun, hended, _, _, rfl, ⟨⟨?_, ?_⟩, X.fr⟩, ⟨_, rfl⟩, hW, hsame.mono hk hs⟩
  · show Keep h0 T.heap ws; rw [X.eT]; exact K
  · show Q _ T.heap; rw [X.eT]; exact hQ
theorem k_retFV (X : WP p l e R s m args below meth c Z own mname bytes maxL ret n0 Inv Sf T h locs cells slots) {ws : List Addr} {Q : Option Value → Heap → Prop} {k n : Nat} {h0 : Heap} (hd : decode bytes pc = .ok (.return_, 1)) (hr : ret = none) (K : Keep h0 h ws) (hQ : Q none h) (hk : cells ≤ k) (hs : slots ≤ n) : Run p.tables e below (PF s below n0 h0 ws Q k n) T (mkF m pc Ls []) := by
  have hlk := X.hlk
  obtain ⟨fs, hl, hrun, hended, hW, hsame⟩ := X.1.leave (v := none) (fun _ => rfl)
  refine ⟨_, X.1.returnOut X.hx (X.hret.trans hr) (hb X.hby hd) hl, _, hrun, hended, _, _, rfl, ⟨⟨?_, ?_⟩, X.fr⟩, ⟨_, rfl⟩, hW, hsame.mono hk hs⟩
  · show Keep h0 T.heap ws; rw [X.eT]; exact K
  · show Q _ T.heap; rw [X.eT]; exact hQ
/-- what an interning walk keeps up: the literals of EL say their text -/
def InvH (Z : State) (a0 : Array Value) (EL : List (String × Nat)) (s0 : State) (v : Vm) (h : Heap) : Prop := EW Z a0 EL ∧ Z.Warmed39 v ∧ (∃ k0, s0.Since v k0 ∧ k0 ≤ h.size) ∧ CHr Z EL s0.vm s0.heap v h
theorem clH {EL : List (String × Nat)} {s0 : State} {v : Vm} (hal : Z.vm.Alike v) : Cl Z (InvH Z a0 EL s0 v) (Safe Z EL v) :=
  ⟨fun h h' ws K hs I => ⟨⟨I.1, I.2.1, by obtain ⟨k0, a, b⟩ := I.2.2.1; exact ⟨k0, a, Nat.le_trans b K.1⟩, I.2.2.2.trans (CHr.keep K hs I.2.2.2.1)⟩, fun x q => Safe.keep K hs I.2.2.2.1 q⟩, fun h x q => Safe.new q, fun h x C E h1 h2 => Safe.exa hal E h1 h2, fun h x c ty A ht => Safe.arr hal A ht⟩
/-- the contract of a body that may load literals -/
def MetH (l : Launch) (tw : List Jvm.Cond) (Z : State) (EL : List (String × Nat)) (n0 : Nat) (y : MethodName) (bytes : ByteArray) (maxL : Nat) (ret : Option FieldType) (rm : Room) (as' : Array Value) (h : Heap) (ws : List Addr) (Q : Option Value → Vm → Heap → Prop) : Prop :=
  MetFree l y (head1 (Jvm.Cond.code y bytes maxL ret :: tw) rm) (fun a U => a = as' ∧ Z.Warmed39 U.vm ∧ U.heap = h ∧ CHv Z EL U.vm h ∧ ∀ x ∈ ws, Safe Z EL U.vm h x) (fun _ _ _ _ _ => True)
    (fun _ U o U' => ∃ v L, o = .returned v ∧ ((Keep h U'.heap ws ∧ Q v U'.vm U'.heap) ∧ Fr n0 L) ∧ CHr Z EL U.vm U.heap U'.vm U'.heap ∧ ReturnedEndW U o U' L rm.cells rm.slots)
def PH (Z : State) (EL : List (String × Nat)) (s : State) (below : List Frame) (n0 : Nat) (h0 : Heap) (ws : List Addr) (Q : Option Value → Vm → Heap → Prop) (k n : Nat) (t : State) : Prop := ∃ o, t.status = .running ∧ Ended t below o ∧ ∃ v L, o = .returned v ∧ ((Keep h0 t.heap ws ∧ Q v t.vm t.heap) ∧ Fr n0 L) ∧ CHr Z EL s.vm s.heap t.vm t.heap ∧ ReturnedEndW s o t L k n
theorem metH {EL : List (String × Nat)} {y : MethodName} {bytes : ByteArray} {maxL : Nat} {ret : Option FieldType} {rm : Room} {as' : Array Value} {ws : List Addr} {Q : Option Value → Vm → Heap → Prop} {tw : List Jvm.Cond} (hEL : EW Z a0 EL) (hpl : plainFor y = true) (Z0 : Old Z n0 h) {Ls : Array Slot} (hef : ∀ m, entryFrame m as' maxL = mkF m 0 Ls [])
    (body : ∀ p e s m below meth c T v, WP p l e rm (s.setVm v) m as' below meth c Z y.cls y.name bytes maxL ret n0 (InvH Z a0 EL s v) (Safe Z EL v) T h [] 0 0 → (∀ x ∈ ws, Safe Z EL v h x) → Run p.tables e below (PH Z EL s below n0 h ws Q rm.cells rm.slots) T (mkF m 0 Ls [])) : MetH l tw Z EL n0 y bytes maxL ret rm as' h ws Q := by
  refine MetFree.of_bodySF hpl hisR ?_
  intro p e s m args below meth c s₁ Bd hml0 hP hK
  obtain ⟨rfl, hZ, hh, hC, hS⟩ := hP
  have e0 : s₁.heap = h := by rw [← hh, Bd.state]; rfl
  have I : InvH Z a0 EL s s.vm h := ⟨hEL, hZ, ⟨s.heap.size, (State.WarmedH.refl s).since _, by rw [hh]; exact Nat.le_refl _⟩, by rw [hh]; exact CHr.refl hC⟩
  obtain ⟨t, hs, o, hr, he, hq⟩ := body p e s m below meth c s₁ s.vm ⟨Stand.of_body Bd, e0, hZ, findClass_of_methodNamed Bd.named, Fr.nil n0, Z0, I, ⟨Bd.exec, Bd.bytes, hml0, Bd.returns, BodyLoose.notSynchronized Bd, (name_of_methodNamed Bd.named Bd.method).1⟩, clH hZ.alike⟩ hS
  rw [← hef] at hs
  exact ⟨t, o, hs, hr, he, hq⟩

theorem k_retHI {EL : List (String × Nat)} {v : Vm} (X : WP p l e R (s.setVm v) m args below meth c Z own mname bytes maxL ret n0 (InvH Z a0 EL s v) (Safe Z EL v) T h locs cells slots) {z : Int32} {ws : List Addr} {Q : Option Value → Vm → Heap → Prop} {k n : Nat} {h0 : Heap} (hd : decode bytes pc = .ok (.ireturn, 1)) (hr : ret = some .int) (K : Keep h0 h ws) (hQ : ∀ v', CHr Z EL v h v' h → Q (some (.int z)) v' h) (hk : cells ≤ k) (hs : slots ≤ n) : Run p.tables e below (PH Z EL s below n0 h0 ws Q k n) T (mkF m pc Ls (.int z :: st)) := by
  have hlk := X.hlk
  obtain ⟨hEL, hWv, ⟨k0, hS, hk0⟩, hC⟩ := X.inv
  obtain ⟨fs, hl, hrun, hended, hRW⟩ := X.1.leaveW hS (by rw [X.eT]; exact hk0) (v := some (.int z)) (fun q => by rw [X.hret, hr] at q; cases q)
  have hC' : CHr Z EL v h T.vm h := CHv.at X.1 hWv hEL hC.1
  refine ⟨_, Jvm.RoadKit.retI X.1 X.hx (X.hret.trans hr) (hb X.hby hd) hl, _, hrun, hended, _, _, rfl, ⟨⟨?_, ?_⟩, X.fr⟩, ?_, hRW.1, hRW.2.1, hRW.2.2.1, hRW.2.2.2.mono hk hs⟩
  · show Keep h0 T.heap ws; rw [X.eT]; exact K
  · show Q _ T.vm T.heap; rw [X.eT]; exact hQ _ hC'
  · show CHr Z EL s.vm s.heap T.vm T.heap; rw [X.eT]; exact hC.trans hC'
theorem k_retHN {EL : List (String × Nat)} {v : Vm} (X : WP p l e R (s.setVm v) m args below meth c Z own mname bytes maxL ret n0 (InvH Z a0 EL s v) (Safe Z EL v) T h locs cells slots) {z w : Int32} {ws : List Addr} {Q : Option Value → Vm → Heap → Prop} {k n : Nat} {h0 : Heap} (hd : decode bytes pc = .ok (.ireturn, 1)) {t : FieldType} (hr : ret = some t) (ht : t = .boolean ∨ t = .byte ∨ t = .char ∨ t = .short) (hnz : nar t z = w) (K : Keep h0 h ws) (hQ : ∀ v', CHr Z EL v h v' h → Q (some (.int w)) v' h) (hk : cells ≤ k) (hs : slots ≤ n) : Run p.tables e below (PH Z EL s below n0 h0 ws Q k n) T (mkF m pc Ls (.int z :: st)) := by
  have hlk := X.hlk
  obtain ⟨hEL, hWv, ⟨k0, hS, hk0⟩, hC⟩ := X.inv
  obtain ⟨fs, hl, hrun, hended, hRW⟩ := X.1.leaveW hS (by rw [X.eT]; exact hk0) (v := some (.int w)) (fun q => by rw [X.hret, hr] at q; cases q)
  have hC' : CHr Z EL v h T.vm h := CHv.at X.1 hWv hEL hC.1
  refine ⟨_, Jvm.RoadKit.retN X.1 X.hx (X.hret.trans hr) ht (hb X.hby hd) (by rw [hnz]; exact hl), _, hrun, hended, _, _, rfl, ⟨⟨?_, ?_⟩, X.fr⟩, ?_, hRW.1, hRW.2.1, hRW.2.2.1, hRW.2.2.2.mono hk hs⟩
  · show Keep h0 T.heap ws; rw [X.eT]; exact K
  · show Q _ T.vm T.heap; rw [X.eT]; exact hQ _ hC'
  · show CHr Z EL s.vm s.heap T.vm T.heap; rw [X.eT]; exact hC.trans hC'
theorem k_retHA {EL : List (String × Nat)} {v : Vm} (X : WP p l e R (s.setVm v) m args below meth c Z own mname bytes maxL ret n0 (InvH Z a0 EL s v) (Safe Z EL v) T h locs cells slots) {x : Value} {ws : List Addr} {Q : Option Value → Vm → Heap → Prop} {k n : Nat} {h0 : Heap} (hd : decode bytes pc = .ok (.areturn, 1)) {t : FieldType} (hr : ret = some t) (hn : narrow t x = x) (ht : t.isReference = true) (hv : x.isRef = true) (K : Keep h0 h ws) (hQ : ∀ v', CHr Z EL v h v' h → Q (some (x)) v' h) (hk : cells ≤ k) (hs : slots ≤ n) : Run p.tables e below (PH Z EL s below n0 h0 ws Q k n) T (mkF m pc Ls (x :: st)) := by
  have hlk := X.hlk
  obtain ⟨hEL, hWv, ⟨k0, hS, hk0⟩, hC⟩ := X.inv
  obtain ⟨fs, hl, hrun, hended, hRW⟩ := X.1.leaveW hS (by rw [X.eT]; exact hk0) (v := some (x)) (fun q => by rw [X.hret, hr] at q; cases q)
  have hC' : CHr Z EL v h T.vm h := CHv.at X.1 hWv hEL hC.1
  refine ⟨_, Jvm.RoadKit.retOut X.1 X.hx (X.hret.trans hr) hn (Or.inr (Or.inr (Or.inr (Or.inr ⟨rfl, ht, hv⟩)))) (hb X.hby hd) hl, _, hrun, hended, _, _, rfl, ⟨⟨?_, ?_⟩, X.fr⟩, ?_, hRW.1, hRW.2.1, hRW.2.2.1, hRW.2.2.2.mono hk hs⟩
  · show Keep h0 T.heap ws; rw [X.eT]; exact K
  · show Q _ T.vm T.heap; rw [X.eT]; exact hQ _ hC'
  · show CHr Z EL s.vm s.heap T.vm T.heap; rw [X.eT]; exact hC.trans hC'
theorem k_retHV {EL : List (String × Nat)} {v : Vm} (X : WP p l e R (s.setVm v) m args below meth c Z own mname bytes maxL ret n0 (InvH Z a0 EL s v) (Safe Z EL v) T h locs cells slots) {ws : List Addr} {Q : Option Value → Vm → Heap → Prop} {k n : Nat} {h0 : Heap} (hd : decode bytes pc = .ok (.return_, 1)) (hr : ret = none) (K : Keep h0 h ws) (hQ : ∀ v', CHr Z EL v h v' h → Q none v' h) (hk : cells ≤ k) (hs : slots ≤ n) : Run p.tables e below (PH Z EL s below n0 h0 ws Q k n) T (mkF m pc Ls []) := by
  have hlk := X.hlk
  obtain ⟨hEL, hWv, ⟨k0, hS, hk0⟩, hC⟩ := X.inv
  obtain ⟨fs, hl, hrun, hended, hRW⟩ := X.1.leaveW hS (by rw [X.eT]; exact hk0) (v := none) (fun _ => rfl)
  have hC' : CHr Z EL v h T.vm h := CHv.at X.1 hWv hEL hC.1
  refine ⟨_, X.1.returnOut X.hx (X.hret.trans hr) (hb X.hby hd) hl, _, hrun, hended, _, _, rfl, ⟨⟨?_, ?_⟩, X.fr⟩, ?_, hRW.1, hRW.2.1, hRW.2.2.1, hRW.2.2.2.mono hk hs⟩
  · show Keep h0 T.heap ws; rw [X.eT]; exact K
  · show Q _ T.vm T.heap; rw [X.eT]; exact hQ _ hC'
  · show CHr Z EL s.vm s.heap T.vm T.heap; rw [X.eT]; exact hC.trans hC'
theorem WP.reH {EL : List (String × Nat)} {v : Vm} (X : WP p l e R (s.setVm v) m args below meth c Z own mname bytes maxL ret n0 (InvH Z a0 EL s v) (Safe Z EL v) T h locs cells slots) {v' : Vm} {T' : State} {h' : Heap} {locs' : List Loc} {cells' slots' : Nat} (X' : Stand p l e R (s.setVm v') m args below meth c T' locs' cells' slots') (e' : T'.heap = h') {ws : List Addr} (K : Keep h h' ws) {k1 : Nat} (hS : s.Since v' k1) (hk : k1 ≤ h'.size) (hW : Z.Warmed39 v') (ho : v'.findClass own = some m.cls) (hC : CHr Z EL v h v' h') (hge : ∀ x ∈ ws, n0 ≤ x) (N : Fr n0 locs') : WP p l e R (s.setVm v') m args below meth c Z own mname bytes maxL ret n0 (InvH Z a0 EL s v') (Safe Z EL v') T' h' locs' cells' slots' :=
  ⟨X', e', hW, ho, N, X.old.keep K hge, ⟨X.inv.1, hW, ⟨k1, hS, hk⟩, X.inv.2.2.2.trans hC⟩, X.2.2.2.2.2.2.2.1, clH hW.alike⟩
theorem k_ldcO {EL : List (String × Nat)} {v : Vm} (X : WP p l e R (s.setVm v) m args below meth c Z own mname bytes maxL ret n0 (InvH Z a0 EL s v) (Safe Z EL v) T h locs cells slots) {text : String} {index n : Nat} (hd : decode bytes pc = .ok (.ldc index, 2)) (w : (Cond.stringLink own index text).before a0 Z = true) (wS : ∀ a ∈ Bundle.stringAtoms, a.before a0 Z = true) (hn : 4 * text.toList.length ≤ n) (hbig : n ≤ 536870912) (hc : cells + 2 ≤ R.cells) (hl : slots + (n + 4) ≤ R.slots) (hp : pc + 2 = pc')
    (q : ∀ a v' T' h', WP p l e R (s.setVm v') m args below meth c Z own mname bytes maxL ret n0 (InvH Z a0 EL s v') (Safe Z EL v') T' h' locs (cells + 2) (slots + (n + 4)) → Keep h h' [] → CHr Z EL v h v' h' → Run p.tables e below P T' (mkF m pc' Ls (.ref a :: st))) : Run p.tables e below P T (mkF m pc Ls st) := by
  subst hp
  obtain ⟨hEL, hWv, ⟨k0, hS, hk0⟩, hC⟩ := X.inv
  obtain ⟨a, T', h', k1, X', e', E, hS', hk1, hZ', ho', hC', -, k⟩ := ldcOH X.1 X.hx hWv X.hown w wS X.eT hS hk0 hEL hC.1 (g := mkF m pc Ls st) rfl (hb X.hby hd) hn hbig hc hl
  have K := ext_keep E
  exact Run.of k (q a T'.vm T' h' (X.reH X' e' K hS' hk1 hZ' ho' hC' (fun _ q => nomatch q) X.fr) K hC')
theorem k_ldcR {EL : List (String × Nat)} {v : Vm} (X : WP p l e R (s.setVm v) m args below meth c Z own mname bytes maxL ret n0 (InvH Z a0 EL s v) (Safe Z EL v) T h locs cells slots) {text : String} {index n : Nat} (hd : decode bytes pc = .ok (.ldc index, 2)) (w : (Cond.stringLink own index text).before a0 Z = true) (wS : ∀ a ∈ Bundle.stringAtoms, a.before a0 Z = true) (hmem : (own, index) ∈ EL) {vs : List Value} {z : Int32} (ht : (∀ c ∈ text.toList, c.toNat < 256) ∧ text.toList.map (fun c => Value.int (Jvm.Lit.byteI c.toNat.toUInt16)) = vs) (hz : ¬ z < 0) (hlv : z.toNatClampNeg = vs.length)
    (hn : 4 * text.toList.length ≤ n) (hbig : n ≤ 536870912) (hc : cells + 2 ≤ R.cells) (hl : slots + (n + 4) ≤ R.slots) (hp : pc + 2 = pc')
    (q : ∀ a b kb v' T' h', WP p l e R (s.setVm v') m args below meth c Z own mname bytes maxL ret n0 (InvH Z a0 EL s v') (Safe Z EL v') T' h' locs (cells + 2) (slots + (n + 4)) → Keep h h' [] → CHr Z EL v h v' h' → Exa Z h' a "java/lang/String" → Fld Z h' a "java/lang/String" "coder" "B" (.int 0) → Fld Z h' a "java/lang/String" "value" "[B" (.ref b) → Arv Z h' b kb .byte z vs (.int 0) → (∀ x, Safe Z EL v' h' x → x ≠ a ∧ x ≠ b) → Run p.tables e below P T' (mkF m pc' Ls (.ref a :: st))) : Run p.tables e below P T (mkF m pc Ls st) := by
  subst hp
  obtain ⟨hEL, hWv, ⟨k0, hS, hk0⟩, hC⟩ := X.inv
  obtain ⟨a, T', h', k1, b, kb, X', e', E, hS', hk1, hZ', ho', A, F1, F2, V, -, -, hC', -, hne, k⟩ := ldcCH X.1 X.hx hWv X.hown w wS X.eT hS hk0 hEL hmem hC.1 ht hz hlv (g := mkF m pc Ls st) rfl (hb X.hby hd) hn hbig hc hl
  have K := ext_keep E
  exact Run.of k (q a b kb T'.vm T' h' (X.reH X' e' K hS' hk1 hZ' ho' hC' (fun _ q => nomatch q) X.fr) K hC' A F1 F2 V hne)
theorem backH {EL : List (String × Nat)} {v : Vm} {y : MethodName} {bytes : ByteArray} {maxL : Nat} {ret : Option FieldType} {rm : Room} {len W : Nat} {as' : Array Value} {ws : List Addr} {Q : Option Value → Vm → Heap → Prop}
    (hM : MetH l [] Z EL n0 y bytes maxL ret rm as' h ws Q) (hZ : Z.Warmed39 v) (wc : (Cond.code y bytes maxL ret).before a0 Z = true) (wz : (Cond.initialized y.cls).before a0 Z = true) (hf : rm.frames + 1 ≤ R.frames) (hl : W + (maxL + 11) + rm.locals ≤ R.locals) (hEL : EW Z a0 EL) (H : CHv Z EL v h) (hs : ∀ x ∈ ws, x < h.size ∧ Safe Z EL v h x) :
    BackS l R p e below (s.setVm v) args y len W (fun A a => a = as' ∧ A.U.heap = h ∧ A.cells + rm.cells ≤ R.cells ∧ A.slots + rm.slots ≤ R.slots)
      (fun A _ r B => ∃ L, ((Keep h B.U.heap ws ∧ Q r B.U.vm B.U.heap) ∧ Fr n0 L) ∧ B.locs = A.locs ++ L ∧ B.cells = A.cells + rm.cells ∧ B.slots = A.slots + rm.slots ∧ CHr Z EL v h B.U.vm B.U.heap) :=
  BackS.of_freeW (bytes := bytes) (maxL := maxL) (ret := ret) (E := fun _ first o t L k n => k = rm.cells ∧ n = rm.slots ∧ (∃ r, o = .returned r ∧ ((Keep h t.heap ws ∧ Q r t.vm t.heap) ∧ Fr n0 L)) ∧ CHr Z EL first.vm first.heap t.vm t.heap) hM hf hl
    (fun m meth c A a Y hp => have hU : Z.Warmed39 A.U.vm := wtrans (s := s.setVm v) hZ Y.warmed
      ⟨by show (Cond.and _ .tt).before a A.U = true; rw [Cond.before_and, Jvm.RoadKit.mv hU wc]; rfl, Jvm.RoadKit.mv hU wc, Jvm.RoadKit.mv hU wz, hp.2.2.1, hp.2.2.2⟩)
    (fun m meth c A a g mk Y hp => ⟨hp.1, wtrans (s := s.setVm v) hZ Y.warmed, hp.2.1, (CHv.at Y hZ hEL H).1, fun x hx => (CHv.at Y hZ hEL H).safe (hs x hx).1 (hs x hx).2⟩) (fun _ _ _ _ _ _ _ _ _ => trivial)
    (fun _ _ _ _ ⟨r, L, h1, h2, h3, h4⟩ => ⟨L, _, _, h4, rfl, rfl, ⟨r, h1, h2⟩, h3⟩)
    (fun m meth c A a g mk r t L k n Y hp _ _ ⟨e1, e2, ⟨r', e3, e4⟩, e5⟩ => by
      cases e3; subst e1 e2
      refine ⟨L, e4, rfl, rfl, rfl, (CHv.at Y hZ hEL H).trans ?_⟩
      rw [← hp.2.1]; exact e5)
theorem selP {s : State} {args : Array Value} {C : String} {y : MethodName} (hsel : (Cond.selects C y y).before args s = true) (hp : (Cond.privateMethod y).before args s = true) (hi : (Cond.instanceMethod y).before args s = true) (hy : y.cls ≠ "java/lang/invoke/MethodHandle" ∧ y.cls ≠ "java/lang/invoke/VarHandle") : (Cond.selects y.cls y y).before args s = true := by
  obtain ⟨_, _, mk, -, -, q3, -, kP, h1, h2⟩ := Cond.selects_spec hsel
  exact selects_self_of_private (findClass_of_methodNamed q3) h1 h2 (Cond.privateMethod_at hp) hi hy
theorem sameP {s : State} {args : Array Value} {y y1 y2 : MethodName} {C : String} (hi : (Cond.instanceMethod y).before args s = true) (hsel : (Cond.selects C y1 y2).before args s = true) (h12 : y2.cls = y.cls) (hy : y.cls ≠ "java/lang/invoke/MethodHandle" ∧ y.cls ≠ "java/lang/invoke/VarHandle") : (Cond.sameMethod y.cls y.cls y.name y.desc).before args s = true := by
  obtain ⟨mk, methM, hnamed, hmethM, -, -⟩ := Cond.instanceMethod_spec hi
  have hf := State.methodFound?_of_named hnamed hy
  have hc := findClass_of_methodNamed hnamed
  obtain ⟨_, _, m2, -, -, q3, -, kP, h1, h2⟩ := Cond.selects_spec hsel
  have hm : m2.cls = mk.cls := Option.some.inj ((findClass_of_methodNamed q3).symm.trans (h12 ▸ hc))
  rw [hm] at h1
  simp [Cond.before, Cond.holds, Cond.value, hf, hc, hnamed, h1, h2]
theorem k_callSVF (X : WP p l e R s m args below meth c Z own mname bytes maxL ret n0 Inv Sf T h locs cells slots) {y : MethodName} {index W : Nat} {bytes' : ByteArray} {maxL' : Nat} {ret' : Option FieldType} {rm : Room} {ws : List Addr} {Q : Value → Heap → Prop}  {argsL rest stk : List Value} {ps : List FieldType} {rt : Option FieldType} (hd : decode bytes pc = .ok (.invokestatic index, 3)) (w1 : (Cond.methodLink own index y).before a0 Z = true) (w2 : (Cond.static y).before a0 Z = true) (wz : (Cond.initialized y.cls).before a0 Z = true) (wc : (Cond.code y bytes' maxL' ret').before a0 Z = true) (hy : y.cls ≠ "java/lang/invoke/MethodHandle" ∧ y.cls ≠ "java/lang/invoke/VarHandle")  (hM : MetF l [] Z n0 y bytes' maxL' ret' rm argsL.toArray h ws (fun r h' => ∃ w, r = some w ∧ Q w h')) (hstk : stk = argsL.reverse ++ rest) (hpd : parseMethodDescriptor y.desc = some ⟨ps, rt⟩) (hlen : argsL.length = ps.length) (hsz : Ls.size = maxL) (hfr : rm.frames + 1 ≤ R.frames) (hW : (rest.map fun v => v.category).sum ≤ W) (hlo : W + (maxL' + 11) + rm.locals ≤ R.locals) (hc : cells + rm.cells ≤ R.cells) (hs : slots + rm.slots ≤ R.slots) (hsf : ∀ x ∈ ws, Sf h x ∧ n0 ≤ x) (hp : pc + 3 = pc')
    (q : ∀ w T' h' L', WP p l e R s m args below meth c Z own mname bytes maxL ret n0 Inv Sf T' h' L' (cells + rm.cells) (slots + rm.slots) → Keep h h' ws → Q w h' → Run p.tables e below P T' (mkF m pc' Ls (w :: rest))) : Run p.tables e below P T (mkF m pc Ls stk) := by
  subst hp
  have bk := backOf (R := R) (p := p) (e := e) (below := below) (args := args) (len := 3) (W := W) (Q := fun r h' L => (Keep h h' ws ∧ (fun r h' => ∃ w, r = some w ∧ Q w h') r h') ∧ Fr n0 L) hM X.hZ wc wz hfr hlo
  obtain ⟨r, _, ⟨T', L', k', n'⟩, -, X', ⟨Lc, hQ, l1, l2, l3⟩, kk⟩ := Jvm.LawKit.callS X.1 X.hx (y := y) X.hown (mvT X.hZ w1) (mvT X.hZ w2) (mvT X.hZ wz) (mvT X.hZ wc) hy bk (g := mkF m pc Ls stk) rfl (by rw [X.hml]; exact hsz) (argsL := argsL) (rest := rest) (lenOf hpd hlen) hstk (by show 2 * 0 + _ ≤ _; omega) (hb X.hby hd) (fun _ _ => ⟨rfl, X.eT, hc, hs⟩)
  dsimp only [Pt.U, Pt.locs, Pt.cells, Pt.slots] at X' l1 l2 l3 kk hQ
  subst l1 l2 l3
  obtain ⟨⟨K, w, rfl, hQ⟩, N⟩ := hQ
  exact Run.of kk (q _ _ _ _ (X.mv X' rfl K hsf (X.fr.app N)) K hQ)
theorem k_callSNF (X : WP p l e R s m args below meth c Z own mname bytes maxL ret n0 Inv Sf T h locs cells slots) {y : MethodName} {index W : Nat} {bytes' : ByteArray} {maxL' : Nat} {ret' : Option FieldType} {rm : Room} {ws : List Addr} {Q : Heap → Prop}  {argsL rest stk : List Value} {ps : List FieldType} {rt : Option FieldType} (hd : decode bytes pc = .ok (.invokestatic index, 3)) (w1 : (Cond.methodLink own index y).before a0 Z = true) (w2 : (Cond.static y).before a0 Z = true) (wz : (Cond.initialized y.cls).before a0 Z = true) (wc : (Cond.code y bytes' maxL' ret').before a0 Z = true) (hy : y.cls ≠ "java/lang/invoke/MethodHandle" ∧ y.cls ≠ "java/lang/invoke/VarHandle")  (hM : MetF l [] Z n0 y bytes' maxL' ret' rm argsL.toArray h ws (fun r h' => r = none ∧ Q h')) (hstk : stk = argsL.reverse ++ rest) (hpd : parseMethodDescriptor y.desc = some ⟨ps, rt⟩) (hlen : argsL.length = ps.length) (hsz : Ls.size = maxL) (hfr : rm.frames + 1 ≤ R.frames) (hW : (rest.map fun v => v.category).sum ≤ W) (hlo : W + (maxL' + 11) + rm.locals ≤ R.locals) (hc : cells + rm.cells ≤ R.cells) (hs : slots + rm.slots ≤ R.slots) (hsf : ∀ x ∈ ws, Sf h x ∧ n0 ≤ x) (hp : pc + 3 = pc')
    (q : ∀ T' h' L', WP p l e R s m args below meth c Z own mname bytes maxL ret n0 Inv Sf T' h' L' (cells + rm.cells) (slots + rm.slots) → Keep h h' ws → Q h' → Run p.tables e below P T' (mkF m pc' Ls (rest))) : Run p.tables e below P T (mkF m pc Ls stk) := by
  subst hp
  have bk := backOf (R := R) (p := p) (e := e) (below := below) (args := args) (len := 3) (W := W) (Q := fun r h' L => (Keep h h' ws ∧ (fun r h' => r = none ∧ Q h') r h') ∧ Fr n0 L) hM X.hZ wc wz hfr hlo
  obtain ⟨r, _, ⟨T', L', k', n'⟩, -, X', ⟨Lc, hQ, l1, l2, l3⟩, kk⟩ := Jvm.LawKit.callS X.1 X.hx (y := y) X.hown (mvT X.hZ w1) (mvT X.hZ w2) (mvT X.hZ wz) (mvT X.hZ wc) hy bk (g := mkF m pc Ls stk) rfl (by rw [X.hml]; exact hsz) (argsL := argsL) (rest := rest) (lenOf hpd hlen) hstk (by show 2 * 0 + _ ≤ _; omega) (hb X.hby hd) (fun _ _ => ⟨rfl, X.eT, hc, hs⟩)
  dsimp only [Pt.U, Pt.locs, Pt.cells, Pt.slots] at X' l1 l2 l3 kk hQ
  subst l1 l2 l3
  obtain ⟨⟨K, rfl, hQ⟩, N⟩ := hQ
  exact Run.of kk (q _ _ _ (X.mv X' rfl K hsf (X.fr.app N)) K hQ)
theorem k_callSVH {EL : List (String × Nat)} {v : Vm} (X : WP p l e R (s.setVm v) m args below meth c Z own mname bytes maxL ret n0 (InvH Z a0 EL s v) (Safe Z EL v) T h locs cells slots) {y : MethodName} {index W : Nat} {bytes' : ByteArray} {maxL' : Nat} {ret' : Option FieldType} {rm : Room} {ws : List Addr} {Q : Value → Vm → Heap → Prop}  {argsL rest stk : List Value} {ps : List FieldType} {rt : Option FieldType} (hd : decode bytes pc = .ok (.invokestatic index, 3)) (w1 : (Cond.methodLink own index y).before a0 Z = true) (w2 : (Cond.static y).before a0 Z = true) (wz : (Cond.initialized y.cls).before a0 Z = true) (wc : (Cond.code y bytes' maxL' ret').before a0 Z = true) (hy : y.cls ≠ "java/lang/invoke/MethodHandle" ∧ y.cls ≠ "java/lang/invoke/VarHandle")  (hM : MetH l [] Z EL n0 y bytes' maxL' ret' rm argsL.toArray h ws (fun r v' h' => ∃ w, r = some w ∧ Q w v' h')) (hstk : stk = argsL.reverse ++ rest) (hpd : parseMethodDescriptor y.desc = some ⟨ps, rt⟩) (hlen : argsL.length = ps.length) (hsz : Ls.size = maxL) (hfr : rm.frames + 1 ≤ R.frames) (hW : (rest.map fun v => v.category).sum ≤ W) (hlo : W + (maxL' + 11) + rm.locals ≤ R.locals) (hc : cells + rm.cells ≤ R.cells) (hs : slots + rm.slots ≤ R.slots) (hsf : ∀ x ∈ ws, (x < h.size ∧ Safe Z EL v h x) ∧ n0 ≤ x) (hp : pc + 3 = pc')
    (q : ∀ w v' T' h' L', WP p l e R (s.setVm v') m args below meth c Z own mname bytes maxL ret n0 (InvH Z a0 EL s v') (Safe Z EL v') T' h' L' (cells + rm.cells) (slots + rm.slots) → Keep h h' ws → CHr Z EL v h v' h' → Q w v' h' → Run p.tables e below P T' (mkF m pc' Ls (w :: rest))) : Run p.tables e below P T (mkF m pc Ls stk) := by
  subst hp
  obtain ⟨hEL, hWv, ⟨k0, hS, hk0⟩, hC⟩ := X.inv
  have bk := backH (R := R) (p := p) (e := e) (below := below) (s := s) (args := args) (len := 3) (W := W) hM hWv wc wz hfr hlo hEL hC.1 (fun x q => (hsf x q).1)
  obtain ⟨r, _, ⟨T', L', k', n'⟩, -, X', hS2, hgr, ⟨Lc, hQ, l1, l2, l3, hC'⟩, kk⟩ := callSS X.1 X.hx (y := y) X.hown (mvT X.hZ w1) (mvT X.hZ w2) (mvT X.hZ wz) (mvT X.hZ wc) hy bk (g := mkF m pc Ls stk) rfl (by rw [X.hml]; exact hsz) (argsL := argsL) (rest := rest) (lenOf hpd hlen) hstk (by show 2 * 0 + _ ≤ _; omega) (hb X.hby hd) (fun _ _ => ⟨rfl, X.eT, hc, hs⟩)
  dsimp only [Pt.U, Pt.locs, Pt.cells, Pt.slots] at X' l1 l2 l3 kk hQ hS2 hgr hC'
  subst l1 l2 l3
  obtain ⟨⟨K, w, rfl, hQ⟩, N⟩ := hQ
  obtain ⟨X2, hS3, hZ2, ho2⟩ := rebS hS (show k0 ≤ T.heap.size by rw [X.eT]; exact hk0) X' hS2 hgr X.hZ X.hown
  exact Run.tr kk (q _ _ _ _ _ (X.reH X2 rfl K hS3 (Nat.le_refl _) hZ2 ho2 hC' (fun x q => (hsf x q).2) (X.fr.app N)) K hC' hQ)
theorem k_callSNH {EL : List (String × Nat)} {v : Vm} (X : WP p l e R (s.setVm v) m args below meth c Z own mname bytes maxL ret n0 (InvH Z a0 EL s v) (Safe Z EL v) T h locs cells slots) {y : MethodName} {index W : Nat} {bytes' : ByteArray} {maxL' : Nat} {ret' : Option FieldType} {rm : Room} {ws : List Addr} {Q : Vm → Heap → Prop}  {argsL rest stk : List Value} {ps : List FieldType} {rt : Option FieldType} (hd : decode bytes pc = .ok (.invokestatic index, 3)) (w1 : (Cond.methodLink own index y).before a0 Z = true) (w2 : (Cond.static y).before a0 Z = true) (wz : (Cond.initialized y.cls).before a0 Z = true) (wc : (Cond.code y bytes' maxL' ret').before a0 Z = true) (hy : y.cls ≠ "java/lang/invoke/MethodHandle" ∧ y.cls ≠ "java/lang/invoke/VarHandle")  (hM : MetH l [] Z EL n0 y bytes' maxL' ret' rm argsL.toArray h ws (fun r v' h' => r = none ∧ Q v' h')) (hstk : stk = argsL.reverse ++ rest) (hpd : parseMethodDescriptor y.desc = some ⟨ps, rt⟩) (hlen : argsL.length = ps.length) (hsz : Ls.size = maxL) (hfr : rm.frames + 1 ≤ R.frames) (hW : (rest.map fun v => v.category).sum ≤ W) (hlo : W + (maxL' + 11) + rm.locals ≤ R.locals) (hc : cells + rm.cells ≤ R.cells) (hs : slots + rm.slots ≤ R.slots) (hsf : ∀ x ∈ ws, (x < h.size ∧ Safe Z EL v h x) ∧ n0 ≤ x) (hp : pc + 3 = pc')
    (q : ∀ v' T' h' L', WP p l e R (s.setVm v') m args below meth c Z own mname bytes maxL ret n0 (InvH Z a0 EL s v') (Safe Z EL v') T' h' L' (cells + rm.cells) (slots + rm.slots) → Keep h h' ws → CHr Z EL v h v' h' → Q v' h' → Run p.tables e below P T' (mkF m pc' Ls (rest))) : Run p.tables e below P T (mkF m pc Ls stk) := by
  subst hp
  obtain ⟨hEL, hWv, ⟨k0, hS, hk0⟩, hC⟩ := X.inv
  have bk := backH (R := R) (p := p) (e := e) (below := below) (s := s) (args := args) (len := 3) (W := W) hM hWv wc wz hfr hlo hEL hC.1 (fun x q => (hsf x q).1)
  obtain ⟨r, _, ⟨T', L', k', n'⟩, -, X', hS2, hgr, ⟨Lc, hQ, l1, l2, l3, hC'⟩, kk⟩ := callSS X.1 X.hx (y := y) X.hown (mvT X.hZ w1) (mvT X.hZ w2) (mvT X.hZ wz) (mvT X.hZ wc) hy bk (g := mkF m pc Ls stk) rfl (by rw [X.hml]; exact hsz) (argsL := argsL) (rest := rest) (lenOf hpd hlen) hstk (by show 2 * 0 + _ ≤ _; omega) (hb X.hby hd) (fun _ _ => ⟨rfl, X.eT, hc, hs⟩)
  dsimp only [Pt.U, Pt.locs, Pt.cells, Pt.slots] at X' l1 l2 l3 kk hQ hS2 hgr hC'
  subst l1 l2 l3
  obtain ⟨⟨K, rfl, hQ⟩, N⟩ := hQ
  obtain ⟨X2, hS3, hZ2, ho2⟩ := rebS hS (show k0 ≤ T.heap.size by rw [X.eT]; exact hk0) X' hS2 hgr X.hZ X.hown
  exact Run.tr kk (q _ _ _ _ (X.reH X2 rfl K hS3 (Nat.le_refl _) hZ2 ho2 hC' (fun x q => (hsf x q).2) (X.fr.app N)) K hC' hQ)
theorem k_callPNF (X : WP p l e R s m args below meth c Z own mname bytes maxL ret n0 Inv Sf T h locs cells slots) {y : MethodName} {index W : Nat} {bytes' : ByteArray} {maxL' : Nat} {ret' : Option FieldType} {rm : Room} {ws : List Addr} {Q : Heap → Prop} {a : Addr} {argsL rest stk : List Value} {ps : List FieldType} {rt : Option FieldType} (hd : decode bytes pc = .ok (.invokespecial index, 3)) (w1 : (Cond.methodLink own index y).before a0 Z = true) (w2 : (Cond.instanceMethod y).before a0 Z = true) (wz : (Cond.initialized y.cls).before a0 Z = true) (wc : (Cond.code y bytes' maxL' ret').before a0 Z = true) (hy : y.cls ≠ "java/lang/invoke/MethodHandle" ∧ y.cls ≠ "java/lang/invoke/VarHandle") (hin : y.name = "<init>") (hrn : ret' = none) (hM : MetF l [] Z n0 y bytes' maxL' ret' rm (.ref a :: argsL).toArray h ws (fun r h' => r = none ∧ Q h')) (hstk : stk = argsL.reverse ++ .ref a :: rest) (hpd : parseMethodDescriptor y.desc = some ⟨ps, rt⟩) (hlen : argsL.length = ps.length) (hsz : Ls.size = maxL) (hfr : rm.frames + 1 ≤ R.frames) (hW : (rest.map fun v => v.category).sum ≤ W) (hlo : W + (maxL' + 11) + rm.locals ≤ R.locals) (hc : cells + rm.cells ≤ R.cells) (hs : slots + rm.slots ≤ R.slots) (hsf : ∀ x ∈ ws, Sf h x ∧ n0 ≤ x) (hp : pc + 3 = pc')
    (q : ∀ T' h' L', WP p l e R s m args below meth c Z own mname bytes maxL ret n0 Inv Sf T' h' L' (cells + rm.cells) (slots + rm.slots) → Keep h h' ws → Q h' → Run p.tables e below P T' (mkF m pc' Ls (rest))) : Run p.tables e below P T (mkF m pc Ls stk) := by
  subst hp
  have bk := backOf (R := R) (p := p) (e := e) (below := below) (args := args) (len := 3) (W := W) (Q := fun r h' L => (Keep h h' ws ∧ (fun r h' => r = none ∧ Q h') r h') ∧ Fr n0 L) hM X.hZ wc wz hfr hlo
  obtain ⟨r, _, ⟨T', L', k', n'⟩, -, X', ⟨Lc, hQ, l1, l2, l3⟩, kk⟩ := X.1.specialBack X.hx (y := y) hin X.hown (mvT X.hZ w1) (mvT X.hZ w2) (bytes := bytes') (maxL := maxL') (mvT X.hZ (hrn ▸ wc)) hy bk (g := mkF m pc Ls stk) rfl (by rw [X.hml]; exact hsz) (Steps.refl _) (a := a) (argsL := argsL) (rest := rest) (lenOf hpd hlen) hstk (by show 2 * 0 + _ ≤ _; omega) (hb X.hby hd) (fun _ _ => ⟨rfl, X.eT, hc, hs⟩)
  dsimp only [Pt.U, Pt.locs, Pt.cells, Pt.slots] at X' l1 l2 l3 kk hQ
  subst l1 l2 l3
  obtain ⟨⟨K, rfl, hQ⟩, N⟩ := hQ
  exact Run.tr kk (q _ _ _ (X.mv X' rfl K hsf (X.fr.app N)) K hQ)
theorem k_callPNH {EL : List (String × Nat)} {v : Vm} (X : WP p l e R (s.setVm v) m args below meth c Z own mname bytes maxL ret n0 (InvH Z a0 EL s v) (Safe Z EL v) T h locs cells slots) {y : MethodName} {index W : Nat} {bytes' : ByteArray} {maxL' : Nat} {ret' : Option FieldType} {rm : Room} {ws : List Addr} {Q : Vm → Heap → Prop} {a : Addr} {argsL rest stk : List Value} {ps : List FieldType} {rt : Option FieldType} (hd : decode bytes pc = .ok (.invokespecial index, 3)) (w1 : (Cond.methodLink own index y).before a0 Z = true) (w2 : (Cond.instanceMethod y).before a0 Z = true) (wz : (Cond.initialized y.cls).before a0 Z = true) (wc : (Cond.code y bytes' maxL' ret').before a0 Z = true) (hy : y.cls ≠ "java/lang/invoke/MethodHandle" ∧ y.cls ≠ "java/lang/invoke/VarHandle") (hin : y.name = "<init>") (hrn : ret' = none) (hM : MetH l [] Z EL n0 y bytes' maxL' ret' rm (.ref a :: argsL).toArray h ws (fun r v' h' => r = none ∧ Q v' h')) (hstk : stk = argsL.reverse ++ .ref a :: rest) (hpd : parseMethodDescriptor y.desc = some ⟨ps, rt⟩) (hlen : argsL.length = ps.length) (hsz : Ls.size = maxL) (hfr : rm.frames + 1 ≤ R.frames) (hW : (rest.map fun v => v.category).sum ≤ W) (hlo : W + (maxL' + 11) + rm.locals ≤ R.locals) (hc : cells + rm.cells ≤ R.cells) (hs : slots + rm.slots ≤ R.slots) (hsf : ∀ x ∈ ws, (x < h.size ∧ Safe Z EL v h x) ∧ n0 ≤ x) (hp : pc + 3 = pc')
    (q : ∀ v' T' h' L', WP p l e R (s.setVm v') m args below meth c Z own mname bytes maxL ret n0 (InvH Z a0 EL s v') (Safe Z EL v') T' h' L' (cells + rm.cells) (slots + rm.slots) → Keep h h' ws → CHr Z EL v h v' h' → Q v' h' → Run p.tables e below P T' (mkF m pc' Ls (rest))) : Run p.tables e below P T (mkF m pc Ls stk) := by
  subst hp
  obtain ⟨hEL, hWv, ⟨k0, hS, hk0⟩, hC⟩ := X.inv
  have bk := backH (R := R) (p := p) (e := e) (below := below) (s := s) (args := args) (len := 3) (W := W) hM hWv wc wz hfr hlo hEL hC.1 (fun x q => (hsf x q).1)
  obtain ⟨r, _, ⟨T', L', k', n'⟩, -, X', hS2, hgr, ⟨Lc, hQ, l1, l2, l3, hC'⟩, kk⟩ := X.1.specialBackS X.hx (y := y) hin X.hown (mvT X.hZ w1) (mvT X.hZ w2) (bytes := bytes') (maxL := maxL') (mvT X.hZ (hrn ▸ wc)) hy bk (g := mkF m pc Ls stk) rfl (by rw [X.hml]; exact hsz) (Steps.refl _) (a := a) (argsL := argsL) (rest := rest) (lenOf hpd hlen) hstk (by show 2 * 0 + _ ≤ _; omega) (hb X.hby hd) (fun _ _ => ⟨rfl, X.eT, hc, hs⟩)
  dsimp only [Pt.U, Pt.locs, Pt.cells, Pt.slots] at X' l1 l2 l3 kk hQ hS2 hgr hC'
  subst l1 l2 l3
  obtain ⟨⟨K, rfl, hQ⟩, N⟩ := hQ
  obtain ⟨X2, hS3, hZ2, ho2⟩ := rebS hS (show k0 ≤ T.heap.size by rw [X.eT]; exact hk0) X' hS2 hgr X.hZ X.hown
  exact Run.tr kk (q _ _ _ _ (X.reH X2 rfl K hS3 (Nat.le_refl _) hZ2 ho2 hC' (fun x q => (hsf x q).2) (X.fr.app N)) K hC' hQ)
theorem k_callVVF (X : WP p l e R s m args below meth c Z own mname bytes maxL ret n0 Inv Sf T h locs cells slots) {y : MethodName} {index W : Nat} {bytes' : ByteArray} {maxL' : Nat} {ret' : Option FieldType} {rm : Room} {ws : List Addr} {Q : Value → Heap → Prop} {a : Addr} {y0 : MethodName} {C : String} {argsL rest stk : List Value} {ps : List FieldType} {rt : Option FieldType} (hd : decode bytes pc = .ok (.invokevirtual index, 3)) (w1 : (Cond.methodLink own index y0).before a0 Z = true) (w2 : (Cond.declares y0).before a0 Z = true) (w3 : (Cond.selects C y0 y).before a0 Z = true) (w4 : (Cond.instanceMethod y).before a0 Z = true) (wz : (Cond.initialized y.cls).before a0 Z = true) (wc : (Cond.code y bytes' maxL' ret').before a0 Z = true) (hy : y0.cls ≠ "java/lang/invoke/MethodHandle" ∧ y0.cls ≠ "java/lang/invoke/VarHandle") (hnf : NotFace s y0) (E : Exa Z h a C) (hM : MetF l [] Z n0 y bytes' maxL' ret' rm (.ref a :: argsL).toArray h ws (fun r h' => ∃ w, r = some w ∧ Q w h')) (hstk : stk = argsL.reverse ++ .ref a :: rest) (hpd : parseMethodDescriptor y0.desc = some ⟨ps, rt⟩) (hlen : argsL.length = ps.length) (hsz : Ls.size = maxL) (hfr : rm.frames + 1 ≤ R.frames) (hW : (rest.map fun v => v.category).sum ≤ W) (hlo : W + (maxL' + 11) + rm.locals ≤ R.locals) (hc : cells + rm.cells ≤ R.cells) (hs : slots + rm.slots ≤ R.slots) (hsf : ∀ x ∈ ws, Sf h x ∧ n0 ≤ x) (hp : pc + 3 = pc')
    (q : ∀ w T' h' L', WP p l e R s m args below meth c Z own mname bytes maxL ret n0 Inv Sf T' h' L' (cells + rm.cells) (slots + rm.slots) → Keep h h' ws → Q w h' → Run p.tables e below P T' (mkF m pc' Ls (w :: rest))) : Run p.tables e below P T (mkF m pc Ls stk) := by
  subst hp
  obtain ⟨cq, kq, qa, qb, qc⟩ := isOf (T := T) X.hZ X.eT E
  have bk := backOf (R := R) (p := p) (e := e) (below := below) (args := args) (len := 3) (W := W) (Q := fun r h' L => (Keep h h' ws ∧ (fun r h' => ∃ w, r = some w ∧ Q w h') r h') ∧ Fr n0 L) hM X.hZ wc wz hfr hlo
  obtain ⟨r, _, ⟨T', L', k', n'⟩, -, X', ⟨Lc, hQ, l1, l2, l3⟩, kk⟩ := X.1.virtualBack X.hx (y := y0) (z := y) X.hown (mvT X.hZ w1) (mvT X.hZ w2) hnf (mvT X.hZ w3) (mvT X.hZ w4) hy bk qa qc (g := mkF m pc Ls stk) rfl (by rw [X.hml]; exact hsz) (Steps.refl _) (argsL := argsL) (rest := rest) (lenOf hpd hlen) hstk (by show 2 * 0 + _ ≤ _; omega) (hb X.hby hd) (fun _ _ => ⟨rfl, X.eT, hc, hs⟩)
  dsimp only [Pt.U, Pt.locs, Pt.cells, Pt.slots] at X' l1 l2 l3 kk hQ
  subst l1 l2 l3
  obtain ⟨⟨K, w, rfl, hQ⟩, N⟩ := hQ
  exact Run.tr kk (q _ _ _ _ (X.mv X' rfl K hsf (X.fr.app N)) K hQ)
theorem k_callVNF (X : WP p l e R s m args below meth c Z own mname bytes maxL ret n0 Inv Sf T h locs cells slots) {y : MethodName} {index W : Nat} {bytes' : ByteArray} {maxL' : Nat} {ret' : Option FieldType} {rm : Room} {ws : List Addr} {Q : Heap → Prop} {a : Addr} {y0 : MethodName} {C : String} {argsL rest stk : List Value} {ps : List FieldType} {rt : Option FieldType} (hd : decode bytes pc = .ok (.invokevirtual index, 3)) (w1 : (Cond.methodLink own index y0).before a0 Z = true) (w2 : (Cond.declares y0).before a0 Z = true) (w3 : (Cond.selects C y0 y).before a0 Z = true) (w4 : (Cond.instanceMethod y).before a0 Z = true) (wz : (Cond.initialized y.cls).before a0 Z = true) (wc : (Cond.code y bytes' maxL' ret').before a0 Z = true) (hy : y0.cls ≠ "java/lang/invoke/MethodHandle" ∧ y0.cls ≠ "java/lang/invoke/VarHandle") (hnf : NotFace s y0) (E : Exa Z h a C) (hM : MetF l [] Z n0 y bytes' maxL' ret' rm (.ref a :: argsL).toArray h ws (fun r h' => r = none ∧ Q h')) (hstk : stk = argsL.reverse ++ .ref a :: rest) (hpd : parseMethodDescriptor y0.desc = some ⟨ps, rt⟩) (hlen : argsL.length = ps.length) (hsz : Ls.size = maxL) (hfr : rm.frames + 1 ≤ R.frames) (hW : (rest.map fun v => v.category).sum ≤ W) (hlo : W + (maxL' + 11) + rm.locals ≤ R.locals) (hc : cells + rm.cells ≤ R.cells) (hs : slots + rm.slots ≤ R.slots) (hsf : ∀ x ∈ ws, Sf h x ∧ n0 ≤ x) (hp : pc + 3 = pc')
    (q : ∀ T' h' L', WP p l e R s m args below meth c Z own mname bytes maxL ret n0 Inv Sf T' h' L' (cells + rm.cells) (slots + rm.slots) → Keep h h' ws → Q h' → Run p.tables e below P T' (mkF m pc' Ls (rest))) : Run p.tables e below P T (mkF m pc Ls stk) := by
  subst hp
  obtain ⟨cq, kq, qa, qb, qc⟩ := isOf (T := T) X.hZ X.eT E
  have bk := backOf (R := R) (p := p) (e := e) (below := below) (args := args) (len := 3) (W := W) (Q := fun r h' L => (Keep h h' ws ∧ (fun r h' => r = none ∧ Q h') r h') ∧ Fr n0 L) hM X.hZ wc wz hfr hlo
  obtain ⟨r, _, ⟨T', L', k', n'⟩, -, X', ⟨Lc, hQ, l1, l2, l3⟩, kk⟩ := X.1.virtualBack X.hx (y := y0) (z := y) X.hown (mvT X.hZ w1) (mvT X.hZ w2) hnf (mvT X.hZ w3) (mvT X.hZ w4) hy bk qa qc (g := mkF m pc Ls stk) rfl (by rw [X.hml]; exact hsz) (Steps.refl _) (argsL := argsL) (rest := rest) (lenOf hpd hlen) hstk (by show 2 * 0 + _ ≤ _; omega) (hb X.hby hd) (fun _ _ => ⟨rfl, X.eT, hc, hs⟩)
  dsimp only [Pt.U, Pt.locs, Pt.cells, Pt.slots] at X' l1 l2 l3 kk hQ
  subst l1 l2 l3
  obtain ⟨⟨K, rfl, hQ⟩, N⟩ := hQ
  exact Run.tr kk (q _ _ _ (X.mv X' rfl K hsf (X.fr.app N)) K hQ)
theorem k_callVVH {EL : List (String × Nat)} {v : Vm} (X : WP p l e R (s.setVm v) m args below meth c Z own mname bytes maxL ret n0 (InvH Z a0 EL s v) (Safe Z EL v) T h locs cells slots) {y : MethodName} {index W : Nat} {bytes' : ByteArray} {maxL' : Nat} {ret' : Option FieldType} {rm : Room} {ws : List Addr} {Q : Value → Vm → Heap → Prop} {a : Addr} {y0 : MethodName} {C : String} {argsL rest stk : List Value} {ps : List FieldType} {rt : Option FieldType} (hd : decode bytes pc = .ok (.invokevirtual index, 3)) (w1 : (Cond.methodLink own index y0).before a0 Z = true) (w2 : (Cond.declares y0).before a0 Z = true) (w3 : (Cond.selects C y0 y).before a0 Z = true) (w4 : (Cond.instanceMethod y).before a0 Z = true) (wz : (Cond.initialized y.cls).before a0 Z = true) (wc : (Cond.code y bytes' maxL' ret').before a0 Z = true) (hy : y0.cls ≠ "java/lang/invoke/MethodHandle" ∧ y0.cls ≠ "java/lang/invoke/VarHandle") (hnf : NotFace (s.setVm v) y0) (E : Exa Z h a C) (hM : MetH l [] Z EL n0 y bytes' maxL' ret' rm (.ref a :: argsL).toArray h ws (fun r v' h' => ∃ w, r = some w ∧ Q w v' h')) (hstk : stk = argsL.reverse ++ .ref a :: rest) (hpd : parseMethodDescriptor y0.desc = some ⟨ps, rt⟩) (hlen : argsL.length = ps.length) (hsz : Ls.size = maxL) (hfr : rm.frames + 1 ≤ R.frames) (hW : (rest.map fun v => v.category).sum ≤ W) (hlo : W + (maxL' + 11) + rm.locals ≤ R.locals) (hc : cells + rm.cells ≤ R.cells) (hs : slots + rm.slots ≤ R.slots) (hsf : ∀ x ∈ ws, (x < h.size ∧ Safe Z EL v h x) ∧ n0 ≤ x) (hp : pc + 3 = pc')
    (q : ∀ w v' T' h' L', WP p l e R (s.setVm v') m args below meth c Z own mname bytes maxL ret n0 (InvH Z a0 EL s v') (Safe Z EL v') T' h' L' (cells + rm.cells) (slots + rm.slots) → Keep h h' ws → CHr Z EL v h v' h' → Q w v' h' → Run p.tables e below P T' (mkF m pc' Ls (w :: rest))) : Run p.tables e below P T (mkF m pc Ls stk) := by
  subst hp
  obtain ⟨cq, kq, qa, qb, qc⟩ := isOf (T := T) X.hZ X.eT E
  obtain ⟨hEL, hWv, ⟨k0, hS, hk0⟩, hC⟩ := X.inv
  have bk := backH (R := R) (p := p) (e := e) (below := below) (s := s) (args := args) (len := 3) (W := W) hM hWv wc wz hfr hlo hEL hC.1 (fun x q => (hsf x q).1)
  obtain ⟨r, _, ⟨T', L', k', n'⟩, -, X', hS2, hgr, ⟨Lc, hQ, l1, l2, l3, hC'⟩, kk⟩ := X.1.virtualBackS X.hx (y := y0) (z := y) X.hown (mvT X.hZ w1) (mvT X.hZ w2) hnf (mvT X.hZ w3) (mvT X.hZ w4) hy bk qa qc (g := mkF m pc Ls stk) rfl (by rw [X.hml]; exact hsz) (Steps.refl _) (argsL := argsL) (rest := rest) (lenOf hpd hlen) hstk (by show 2 * 0 + _ ≤ _; omega) (hb X.hby hd) (fun _ _ => ⟨rfl, X.eT, hc, hs⟩)
  dsimp only [Pt.U, Pt.locs, Pt.cells, Pt.slots] at X' l1 l2 l3 kk hQ hS2 hgr hC'
  subst l1 l2 l3
  obtain ⟨⟨K, w, rfl, hQ⟩, N⟩ := hQ
  obtain ⟨X2, hS3, hZ2, ho2⟩ := rebS hS (show k0 ≤ T.heap.size by rw [X.eT]; exact hk0) X' hS2 hgr X.hZ X.hown
  exact Run.tr kk (q _ _ _ _ _ (X.reH X2 rfl K hS3 (Nat.le_refl _) hZ2 ho2 hC' (fun x q => (hsf x q).2) (X.fr.app N)) K hC' hQ)
theorem k_callVNH {EL : List (String × Nat)} {v : Vm} (X : WP p l e R (s.setVm v) m args below meth c Z own mname bytes maxL ret n0 (InvH Z a0 EL s v) (Safe Z EL v) T h locs cells slots) {y : MethodName} {index W : Nat} {bytes' : ByteArray} {maxL' : Nat} {ret' : Option FieldType} {rm : Room} {ws : List Addr} {Q : Vm → Heap → Prop} {a : Addr} {y0 : MethodName} {C : String} {argsL rest stk : List Value} {ps : List FieldType} {rt : Option FieldType} (hd : decode bytes pc = .ok (.invokevirtual index, 3)) (w1 : (Cond.methodLink own index y0).before a0 Z = true) (w2 : (Cond.declares y0).before a0 Z = true) (w3 : (Cond.selects C y0 y).before a0 Z = true) (w4 : (Cond.instanceMethod y).before a0 Z = true) (wz : (Cond.initialized y.cls).before a0 Z = true) (wc : (Cond.code y bytes' maxL' ret').before a0 Z = true) (hy : y0.cls ≠ "java/lang/invoke/MethodHandle" ∧ y0.cls ≠ "java/lang/invoke/VarHandle") (hnf : NotFace (s.setVm v) y0) (E : Exa Z h a C) (hM : MetH l [] Z EL n0 y bytes' maxL' ret' rm (.ref a :: argsL).toArray h ws (fun r v' h' => r = none ∧ Q v' h')) (hstk : stk = argsL.reverse ++ .ref a :: rest) (hpd : parseMethodDescriptor y0.desc = some ⟨ps, rt⟩) (hlen : argsL.length = ps.length) (hsz : Ls.size = maxL) (hfr : rm.frames + 1 ≤ R.frames) (hW : (rest.map fun v => v.category).sum ≤ W) (hlo : W + (maxL' + 11) + rm.locals ≤ R.locals) (hc : cells + rm.cells ≤ R.cells) (hs : slots + rm.slots ≤ R.slots) (hsf : ∀ x ∈ ws, (x < h.size ∧ Safe Z EL v h x) ∧ n0 ≤ x) (hp : pc + 3 = pc')
    (q : ∀ v' T' h' L', WP p l e R (s.setVm v') m args below meth c Z own mname bytes maxL ret n0 (InvH Z a0 EL s v') (Safe Z EL v') T' h' L' (cells + rm.cells) (slots + rm.slots) → Keep h h' ws → CHr Z EL v h v' h' → Q v' h' → Run p.tables e below P T' (mkF m pc' Ls (rest))) : Run p.tables e below P T (mkF m pc Ls stk) := by
  subst hp
  obtain ⟨cq, kq, qa, qb, qc⟩ := isOf (T := T) X.hZ X.eT E
  obtain ⟨hEL, hWv, ⟨k0, hS, hk0⟩, hC⟩ := X.inv
  have bk := backH (R := R) (p := p) (e := e) (below := below) (s := s) (args := args) (len := 3) (W := W) hM hWv wc wz hfr hlo hEL hC.1 (fun x q => (hsf x q).1)
  obtain ⟨r, _, ⟨T', L', k', n'⟩, -, X', hS2, hgr, ⟨Lc, hQ, l1, l2, l3, hC'⟩, kk⟩ := X.1.virtualBackS X.hx (y := y0) (z := y) X.hown (mvT X.hZ w1) (mvT X.hZ w2) hnf (mvT X.hZ w3) (mvT X.hZ w4) hy bk qa qc (g := mkF m pc Ls stk) rfl (by rw [X.hml]; exact hsz) (Steps.refl _) (argsL := argsL) (rest := rest) (lenOf hpd hlen) hstk (by show 2 * 0 + _ ≤ _; omega) (hb X.hby hd) (fun _ _ => ⟨rfl, X.eT, hc, hs⟩)
  dsimp only [Pt.U, Pt.locs, Pt.cells, Pt.slots] at X' l1 l2 l3 kk hQ hS2 hgr hC'
  subst l1 l2 l3
  obtain ⟨⟨K, rfl, hQ⟩, N⟩ := hQ
  obtain ⟨X2, hS3, hZ2, ho2⟩ := rebS hS (show k0 ≤ T.heap.size by rw [X.eT]; exact hk0) X' hS2 hgr X.hZ X.hown
  exact Run.tr kk (q _ _ _ _ (X.reH X2 rfl K hS3 (Nat.le_refl _) hZ2 ho2 hC' (fun x q => (hsf x q).2) (X.fr.app N)) K hC' hQ)
theorem k_callIVF (X : WP p l e R s m args below meth c Z own mname bytes maxL ret n0 Inv Sf T h locs cells slots) {y : MethodName} {index W : Nat} {bytes' : ByteArray} {maxL' : Nat} {ret' : Option FieldType} {rm : Room} {ws : List Addr} {Q : Value → Heap → Prop} {a : Addr} {y0 : MethodName} {C : String} {count : Nat} {argsL rest stk : List Value} {ps : List FieldType} {rt : Option FieldType} (hd : decode bytes pc = .ok (.invokeinterface index count, 5)) (w1 : (Cond.methodLink own index y0).before args s = true) (w2 : (Cond.declares y0).before args s = true) (w5 : (Cond.interfaceMethod y0.cls y0.cls y0.name y0.desc).before args s = true) (w3 : (Cond.selects C y0 y).before args s = true) (w4 : (Cond.instanceMethod y).before args s = true) (w6 : (Cond.publicMethod y).before args s = true) (w7 : (Cond.unhidden C y0.name y0.desc).before args s = true) (w8 : (Cond.castable C y0.cls).before args s = true) (wz : (Cond.initialized y.cls).before a0 Z = true) (wc : (Cond.code y bytes' maxL' ret').before a0 Z = true) (hy : y0.cls ≠ "java/lang/invoke/MethodHandle" ∧ y0.cls ≠ "java/lang/invoke/VarHandle") (E : Exa Z h a C) (hM : MetF l [] Z n0 y bytes' maxL' ret' rm (.ref a :: argsL).toArray h ws (fun r h' => ∃ w, r = some w ∧ Q w h')) (hstk : stk = argsL.reverse ++ .ref a :: rest) (hpd : parseMethodDescriptor y0.desc = some ⟨ps, rt⟩) (hlen : argsL.length = ps.length) (hsz : Ls.size = maxL) (hfr : rm.frames + 1 ≤ R.frames) (hW : (rest.map fun v => v.category).sum ≤ W) (hlo : W + (maxL' + 11) + rm.locals ≤ R.locals) (hc : cells + rm.cells ≤ R.cells) (hs : slots + rm.slots ≤ R.slots) (hsf : ∀ x ∈ ws, Sf h x ∧ n0 ≤ x) (hp : pc + 5 = pc')
    (q : ∀ w T' h' L', WP p l e R s m args below meth c Z own mname bytes maxL ret n0 Inv Sf T' h' L' (cells + rm.cells) (slots + rm.slots) → Keep h h' ws → Q w h' → Run p.tables e below P T' (mkF m pc' Ls (w :: rest))) : Run p.tables e below P T (mkF m pc Ls stk) := by
  subst hp
  obtain ⟨cq, kq, qa, qb, qc⟩ := isOf (T := T) X.hZ X.eT E
  have bk := backOf (R := R) (p := p) (e := e) (below := below) (args := args) (len := 5) (W := W) (Q := fun r h' L => (Keep h h' ws ∧ (fun r h' => ∃ w, r = some w ∧ Q w h') r h') ∧ Fr n0 L) hM X.hZ wc wz hfr hlo
  obtain ⟨r, _, ⟨T', L', k', n'⟩, -, X', ⟨Lc, hQ, l1, l2, l3⟩, kk⟩ := X.1.interfaceBack X.hx (xi := y0) (y := y) X.hown w1 w2 w5 w3 w4 w6 w7 w8 hy bk qa qb qc (g := mkF m pc Ls stk) rfl (by rw [X.hml]; exact hsz) (Steps.refl _) (argsL := argsL) (rest := rest) (lenOf hpd hlen) hstk (by show 2 * 0 + _ ≤ _; omega) (hb X.hby hd) (fun _ _ => ⟨rfl, X.eT, hc, hs⟩)
  dsimp only [Pt.U, Pt.locs, Pt.cells, Pt.slots] at X' l1 l2 l3 kk hQ
  subst l1 l2 l3
  obtain ⟨⟨K, w, rfl, hQ⟩, N⟩ := hQ
  exact Run.tr kk (q _ _ _ _ (X.mv X' rfl K hsf (X.fr.app N)) K hQ)
theorem k_callINF (X : WP p l e R s m args below meth c Z own mname bytes maxL ret n0 Inv Sf T h locs cells slots) {y : MethodName} {index W : Nat} {bytes' : ByteArray} {maxL' : Nat} {ret' : Option FieldType} {rm : Room} {ws : List Addr} {Q : Heap → Prop} {a : Addr} {y0 : MethodName} {C : String} {count : Nat} {argsL rest stk : List Value} {ps : List FieldType} {rt : Option FieldType} (hd : decode bytes pc = .ok (.invokeinterface index count, 5)) (w1 : (Cond.methodLink own index y0).before args s = true) (w2 : (Cond.declares y0).before args s = true) (w5 : (Cond.interfaceMethod y0.cls y0.cls y0.name y0.desc).before args s = true) (w3 : (Cond.selects C y0 y).before args s = true) (w4 : (Cond.instanceMethod y).before args s = true) (w6 : (Cond.publicMethod y).before args s = true) (w7 : (Cond.unhidden C y0.name y0.desc).before args s = true) (w8 : (Cond.castable C y0.cls).before args s = true) (wz : (Cond.initialized y.cls).before a0 Z = true) (wc : (Cond.code y bytes' maxL' ret').before a0 Z = true) (hy : y0.cls ≠ "java/lang/invoke/MethodHandle" ∧ y0.cls ≠ "java/lang/invoke/VarHandle") (E : Exa Z h a C) (hM : MetF l [] Z n0 y bytes' maxL' ret' rm (.ref a :: argsL).toArray h ws (fun r h' => r = none ∧ Q h')) (hstk : stk = argsL.reverse ++ .ref a :: rest) (hpd : parseMethodDescriptor y0.desc = some ⟨ps, rt⟩) (hlen : argsL.length = ps.length) (hsz : Ls.size = maxL) (hfr : rm.frames + 1 ≤ R.frames) (hW : (rest.map fun v => v.category).sum ≤ W) (hlo : W + (maxL' + 11) + rm.locals ≤ R.locals) (hc : cells + rm.cells ≤ R.cells) (hs : slots + rm.slots ≤ R.slots) (hsf : ∀ x ∈ ws, Sf h x ∧ n0 ≤ x) (hp : pc + 5 = pc')
    (q : ∀ T' h' L', WP p l e R s m args below meth c Z own mname bytes maxL ret n0 Inv Sf T' h' L' (cells + rm.cells) (slots + rm.slots) → Keep h h' ws → Q h' → Run p.tables e below P T' (mkF m pc' Ls (rest))) : Run p.tables e below P T (mkF m pc Ls stk) := by
  subst hp
  obtain ⟨cq, kq, qa, qb, qc⟩ := isOf (T := T) X.hZ X.eT E
  have bk := backOf (R := R) (p := p) (e := e) (below := below) (args := args) (len := 5) (W := W) (Q := fun r h' L => (Keep h h' ws ∧ (fun r h' => r = none ∧ Q h') r h') ∧ Fr n0 L) hM X.hZ wc wz hfr hlo
  obtain ⟨r, _, ⟨T', L', k', n'⟩, -, X', ⟨Lc, hQ, l1, l2, l3⟩, kk⟩ := X.1.interfaceBack X.hx (xi := y0) (y := y) X.hown w1 w2 w5 w3 w4 w6 w7 w8 hy bk qa qb qc (g := mkF m pc Ls stk) rfl (by rw [X.hml]; exact hsz) (Steps.refl _) (argsL := argsL) (rest := rest) (lenOf hpd hlen) hstk (by show 2 * 0 + _ ≤ _; omega) (hb X.hby hd) (fun _ _ => ⟨rfl, X.eT, hc, hs⟩)
  dsimp only [Pt.U, Pt.locs, Pt.cells, Pt.slots] at X' l1 l2 l3 kk hQ
  subst l1 l2 l3
  obtain ⟨⟨K, rfl, hQ⟩, N⟩ := hQ
  exact Run.tr kk (q _ _ _ (X.mv X' rfl K hsf (X.fr.app N)) K hQ)
theorem k_callQVF (X : WP p l e R s m args below meth c Z own mname bytes maxL ret n0 Inv Sf T h locs cells slots) {y : MethodName} {index W : Nat} {bytes' : ByteArray} {maxL' : Nat} {ret' : Option FieldType} {rm : Room} {ws : List Addr} {Q : Value → Heap → Prop} {a : Addr} {C : String} {argsL rest stk : List Value} {ps : List FieldType} {rt : Option FieldType} (hd : decode bytes pc = .ok (.invokevirtual index, 3)) (w1 : (Cond.methodLink own index y).before a0 Z = true) (w2 : (Cond.instanceMethod y).before a0 Z = true) (w3 : (Cond.selects C y y).before a0 Z = true) (w4 : (Cond.privateMethod y).before a0 Z = true) (wz : (Cond.initialized y.cls).before a0 Z = true) (wc : (Cond.code y bytes' maxL' ret').before a0 Z = true) (hy : y.cls ≠ "java/lang/invoke/MethodHandle" ∧ y.cls ≠ "java/lang/invoke/VarHandle") (E : Exa Z h a C) (hM : MetF l [] Z n0 y bytes' maxL' ret' rm (.ref a :: argsL).toArray h ws (fun r h' => ∃ w, r = some w ∧ Q w h')) (hstk : stk = argsL.reverse ++ .ref a :: rest) (hpd : parseMethodDescriptor y.desc = some ⟨ps, rt⟩) (hlen : argsL.length = ps.length) (hsz : Ls.size = maxL) (hfr : rm.frames + 1 ≤ R.frames) (hW : (rest.map fun v => v.category).sum ≤ W) (hlo : W + (maxL' + 11) + rm.locals ≤ R.locals) (hc : cells + rm.cells ≤ R.cells) (hs : slots + rm.slots ≤ R.slots) (hsf : ∀ x ∈ ws, Sf h x ∧ n0 ≤ x) (hp : pc + 3 = pc')
    (q : ∀ w T' h' L', WP p l e R s m args below meth c Z own mname bytes maxL ret n0 Inv Sf T' h' L' (cells + rm.cells) (slots + rm.slots) → Keep h h' ws → Q w h' → Run p.tables e below P T' (mkF m pc' Ls (w :: rest))) : Run p.tables e below P T (mkF m pc Ls stk) := by
  subst hp
  obtain ⟨cq, kq, qa, -, -, qs, -⟩ := E
  have qb : ∀ z, cq.vm ≠ .statics z := fun z u => by rw [u] at qs; cases qs
  have bk := backOf (R := R) (p := p) (e := e) (below := below) (args := args) (len := 3) (W := W) (Q := fun r h' L => (Keep h h' ws ∧ (fun r h' => ∃ w, r = some w ∧ Q w h') r h') ∧ Fr n0 L) hM X.hZ wc wz hfr hlo
  obtain ⟨r, _, ⟨T', L', k', n'⟩, -, X', ⟨Lc, hQ, l1, l2, l3⟩, kk⟩ := X.1.privateBack X.hx (y := y) (bytes := bytes') (maxL := maxL') (ret := ret') X.hown (mvT X.hZ w1) (mvT X.hZ w2) (selP (mvT X.hZ w3) (mvT X.hZ w4) (mvT X.hZ w2) hy) (Cond.privateMethod_at (args := args) (mvT X.hZ w4)) (mvT X.hZ wc) hy bk (g := mkF m pc Ls stk) rfl (by rw [X.hml]; exact hsz) (Steps.refl _) (by rw [X.eT]; exact qa) qb (argsL := argsL) (rest := rest) (lenOf hpd hlen) hstk (by show 2 * 0 + _ ≤ _; omega) (hb X.hby hd) (fun _ _ => ⟨rfl, X.eT, hc, hs⟩)
  dsimp only [Pt.U, Pt.locs, Pt.cells, Pt.slots] at X' l1 l2 l3 kk hQ
  subst l1 l2 l3
  obtain ⟨⟨K, w, rfl, hQ⟩, N⟩ := hQ
  exact Run.tr kk (q _ _ _ _ (X.mv X' rfl K hsf (X.fr.app N)) K hQ)
theorem k_callQNF (X : WP p l e R s m args below meth c Z own mname bytes maxL ret n0 Inv Sf T h locs cells slots) {y : MethodName} {index W : Nat} {bytes' : ByteArray} {maxL' : Nat} {ret' : Option FieldType} {rm : Room} {ws : List Addr} {Q : Heap → Prop} {a : Addr} {C : String} {argsL rest stk : List Value} {ps : List FieldType} {rt : Option FieldType} (hd : decode bytes pc = .ok (.invokevirtual index, 3)) (w1 : (Cond.methodLink own index y).before a0 Z = true) (w2 : (Cond.instanceMethod y).before a0 Z = true) (w3 : (Cond.selects C y y).before a0 Z = true) (w4 : (Cond.privateMethod y).before a0 Z = true) (wz : (Cond.initialized y.cls).before a0 Z = true) (wc : (Cond.code y bytes' maxL' ret').before a0 Z = true) (hy : y.cls ≠ "java/lang/invoke/MethodHandle" ∧ y.cls ≠ "java/lang/invoke/VarHandle") (E : Exa Z h a C) (hM : MetF l [] Z n0 y bytes' maxL' ret' rm (.ref a :: argsL).toArray h ws (fun r h' => r = none ∧ Q h')) (hstk : stk = argsL.reverse ++ .ref a :: rest) (hpd : parseMethodDescriptor y.desc = some ⟨ps, rt⟩) (hlen : argsL.length = ps.length) (hsz : Ls.size = maxL) (hfr : rm.frames + 1 ≤ R.frames) (hW : (rest.map fun v => v.category).sum ≤ W) (hlo : W + (maxL' + 11) + rm.locals ≤ R.locals) (hc : cells + rm.cells ≤ R.cells) (hs : slots + rm.slots ≤ R.slots) (hsf : ∀ x ∈ ws, Sf h x ∧ n0 ≤ x) (hp : pc + 3 = pc')
    (q : ∀ T' h' L', WP p l e R s m args below meth c Z own mname bytes maxL ret n0 Inv Sf T' h' L' (cells + rm.cells) (slots + rm.slots) → Keep h h' ws → Q h' → Run p.tables e below P T' (mkF m pc' Ls (rest))) : Run p.tables e below P T (mkF m pc Ls stk) := by
  subst hp
  obtain ⟨cq, kq, qa, -, -, qs, -⟩ := E
  have qb : ∀ z, cq.vm ≠ .statics z := fun z u => by rw [u] at qs; cases qs
  have bk := backOf (R := R) (p := p) (e := e) (below := below) (args := args) (len := 3) (W := W) (Q := fun r h' L => (Keep h h' ws ∧ (fun r h' => r = none ∧ Q h') r h') ∧ Fr n0 L) hM X.hZ wc wz hfr hlo
  obtain ⟨r, _, ⟨T', L', k', n'⟩, -, X', ⟨Lc, hQ, l1, l2, l3⟩, kk⟩ := X.1.privateBack X.hx (y := y) (bytes := bytes') (maxL := maxL') (ret := ret') X.hown (mvT X.hZ w1) (mvT X.hZ w2) (selP (mvT X.hZ w3) (mvT X.hZ w4) (mvT X.hZ w2) hy) (Cond.privateMethod_at (args := args) (mvT X.hZ w4)) (mvT X.hZ wc) hy bk (g := mkF m pc Ls stk) rfl (by rw [X.hml]; exact hsz) (Steps.refl _) (by rw [X.eT]; exact qa) qb (argsL := argsL) (rest := rest) (lenOf hpd hlen) hstk (by show 2 * 0 + _ ≤ _; omega) (hb X.hby hd) (fun _ _ => ⟨rfl, X.eT, hc, hs⟩)
  dsimp only [Pt.U, Pt.locs, Pt.cells, Pt.slots] at X' l1 l2 l3 kk hQ
  subst l1 l2 l3
  obtain ⟨⟨K, rfl, hQ⟩, N⟩ := hQ
  exact Run.tr kk (q _ _ _ (X.mv X' rfl K hsf (X.fr.app N)) K hQ)
theorem k_callQVH {EL : List (String × Nat)} {v : Vm} (X : WP p l e R (s.setVm v) m args below meth c Z own mname bytes maxL ret n0 (InvH Z a0 EL s v) (Safe Z EL v) T h locs cells slots) {y : MethodName} {index W : Nat} {bytes' : ByteArray} {maxL' : Nat} {ret' : Option FieldType} {rm : Room} {ws : List Addr} {Q : Value → Vm → Heap → Prop} {a : Addr} {C : String} {argsL rest stk : List Value} {ps : List FieldType} {rt : Option FieldType} (hd : decode bytes pc = .ok (.invokevirtual index, 3)) (w1 : (Cond.methodLink own index y).before a0 Z = true) (w2 : (Cond.instanceMethod y).before a0 Z = true) (w3 : (Cond.selects C y y).before a0 Z = true) (w4 : (Cond.privateMethod y).before a0 Z = true) (wz : (Cond.initialized y.cls).before a0 Z = true) (wc : (Cond.code y bytes' maxL' ret').before a0 Z = true) (hy : y.cls ≠ "java/lang/invoke/MethodHandle" ∧ y.cls ≠ "java/lang/invoke/VarHandle") (E : Exa Z h a C) (hM : MetH l [] Z EL n0 y bytes' maxL' ret' rm (.ref a :: argsL).toArray h ws (fun r v' h' => ∃ w, r = some w ∧ Q w v' h')) (hstk : stk = argsL.reverse ++ .ref a :: rest) (hpd : parseMethodDescriptor y.desc = some ⟨ps, rt⟩) (hlen : argsL.length = ps.length) (hsz : Ls.size = maxL) (hfr : rm.frames + 1 ≤ R.frames) (hW : (rest.map fun v => v.category).sum ≤ W) (hlo : W + (maxL' + 11) + rm.locals ≤ R.locals) (hc : cells + rm.cells ≤ R.cells) (hs : slots + rm.slots ≤ R.slots) (hsf : ∀ x ∈ ws, (x < h.size ∧ Safe Z EL v h x) ∧ n0 ≤ x) (hp : pc + 3 = pc')
    (q : ∀ w v' T' h' L', WP p l e R (s.setVm v') m args below meth c Z own mname bytes maxL ret n0 (InvH Z a0 EL s v') (Safe Z EL v') T' h' L' (cells + rm.cells) (slots + rm.slots) → Keep h h' ws → CHr Z EL v h v' h' → Q w v' h' → Run p.tables e below P T' (mkF m pc' Ls (w :: rest))) : Run p.tables e below P T (mkF m pc Ls stk) := by
  subst hp
  obtain ⟨cq, kq, qa, -, -, qs, -⟩ := E
  have qb : ∀ z, cq.vm ≠ .statics z := fun z u => by rw [u] at qs; cases qs
  obtain ⟨hEL, hWv, ⟨k0, hS, hk0⟩, hC⟩ := X.inv
  have bk := backH (R := R) (p := p) (e := e) (below := below) (s := s) (args := args) (len := 3) (W := W) hM hWv wc wz hfr hlo hEL hC.1 (fun x q => (hsf x q).1)
  obtain ⟨r, _, ⟨T', L', k', n'⟩, -, X', hS2, hgr, ⟨Lc, hQ, l1, l2, l3, hC'⟩, kk⟩ := X.1.privateBackS X.hx (y := y) (bytes := bytes') (maxL := maxL') (ret := ret') X.hown (mvT X.hZ w1) (mvT X.hZ w2) (selP (mvT X.hZ w3) (mvT X.hZ w4) (mvT X.hZ w2) hy) (Cond.privateMethod_at (args := args) (mvT X.hZ w4)) (mvT X.hZ wc) hy bk (g := mkF m pc Ls stk) rfl (by rw [X.hml]; exact hsz) (Steps.refl _) (by rw [X.eT]; exact qa) qb (argsL := argsL) (rest := rest) (lenOf hpd hlen) hstk (by show 2 * 0 + _ ≤ _; omega) (hb X.hby hd) (fun _ _ => ⟨rfl, X.eT, hc, hs⟩)
  dsimp only [Pt.U, Pt.locs, Pt.cells, Pt.slots] at X' l1 l2 l3 kk hQ hS2 hgr hC'
  subst l1 l2 l3
  obtain ⟨⟨K, w, rfl, hQ⟩, N⟩ := hQ
  obtain ⟨X2, hS3, hZ2, ho2⟩ := rebS hS (show k0 ≤ T.heap.size by rw [X.eT]; exact hk0) X' hS2 hgr X.hZ X.hown
  exact Run.tr kk (q _ _ _ _ _ (X.reH X2 rfl K hS3 (Nat.le_refl _) hZ2 ho2 hC' (fun x q => (hsf x q).2) (X.fr.app N)) K hC' hQ)
theorem k_callQNH {EL : List (String × Nat)} {v : Vm} (X : WP p l e R (s.setVm v) m args below meth c Z own mname bytes maxL ret n0 (InvH Z a0 EL s v) (Safe Z EL v) T h locs cells slots) {y : MethodName} {index W : Nat} {bytes' : ByteArray} {maxL' : Nat} {ret' : Option FieldType} {rm : Room} {ws : List Addr} {Q : Vm → Heap → Prop} {a : Addr} {C : String} {argsL rest stk : List Value} {ps : List FieldType} {rt : Option FieldType} (hd : decode bytes pc = .ok (.invokevirtual index, 3)) (w1 : (Cond.methodLink own index y).before a0 Z = true) (w2 : (Cond.instanceMethod y).before a0 Z = true) (w3 : (Cond.selects C y y).before a0 Z = true) (w4 : (Cond.privateMethod y).before a0 Z = true) (wz : (Cond.initialized y.cls).before a0 Z = true) (wc : (Cond.code y bytes' maxL' ret').before a0 Z = true) (hy : y.cls ≠ "java/lang/invoke/MethodHandle" ∧ y.cls ≠ "java/lang/invoke/VarHandle") (E : Exa Z h a C) (hM : MetH l [] Z EL n0 y bytes' maxL' ret' rm (.ref a :: argsL).toArray h ws (fun r v' h' => r = none ∧ Q v' h')) (hstk : stk = argsL.reverse ++ .ref a :: rest) (hpd : parseMethodDescriptor y.desc = some ⟨ps, rt⟩) (hlen : argsL.length = ps.length) (hsz : Ls.size = maxL) (hfr : rm.frames + 1 ≤ R.frames) (hW : (rest.map fun v => v.category).sum ≤ W) (hlo : W + (maxL' + 11) + rm.locals ≤ R.locals) (hc : cells + rm.cells ≤ R.cells) (hs : slots + rm.slots ≤ R.slots) (hsf : ∀ x ∈ ws, (x < h.size ∧ Safe Z EL v h x) ∧ n0 ≤ x) (hp : pc + 3 = pc')
    (q : ∀ v' T' h' L', WP p l e R (s.setVm v') m args below meth c Z own mname bytes maxL ret n0 (InvH Z a0 EL s v') (Safe Z EL v') T' h' L' (cells + rm.cells) (slots + rm.slots) → Keep h h' ws → CHr Z EL v h v' h' → Q v' h' → Run p.tables e below P T' (mkF m pc' Ls (rest))) : Run p.tables e below P T (mkF m pc Ls stk) := by
  subst hp
  obtain ⟨cq, kq, qa, -, -, qs, -⟩ := E
  have qb : ∀ z, cq.vm ≠ .statics z := fun z u => by rw [u] at qs; cases qs
  obtain ⟨hEL, hWv, ⟨k0, hS, hk0⟩, hC⟩ := X.inv
  have bk := backH (R := R) (p := p) (e := e) (below := below) (s := s) (args := args) (len := 3) (W := W) hM hWv wc wz hfr hlo hEL hC.1 (fun x q => (hsf x q).1)
  obtain ⟨r, _, ⟨T', L', k', n'⟩, -, X', hS2, hgr, ⟨Lc, hQ, l1, l2, l3, hC'⟩, kk⟩ := X.1.privateBackS X.hx (y := y) (bytes := bytes') (maxL := maxL') (ret := ret') X.hown (mvT X.hZ w1) (mvT X.hZ w2) (selP (mvT X.hZ w3) (mvT X.hZ w4) (mvT X.hZ w2) hy) (Cond.privateMethod_at (args := args) (mvT X.hZ w4)) (mvT X.hZ wc) hy bk (g := mkF m pc Ls stk) rfl (by rw [X.hml]; exact hsz) (Steps.refl _) (by rw [X.eT]; exact qa) qb (argsL := argsL) (rest := rest) (lenOf hpd hlen) hstk (by show 2 * 0 + _ ≤ _; omega) (hb X.hby hd) (fun _ _ => ⟨rfl, X.eT, hc, hs⟩)
  dsimp only [Pt.U, Pt.locs, Pt.cells, Pt.slots] at X' l1 l2 l3 kk hQ hS2 hgr hC'
  subst l1 l2 l3
  obtain ⟨⟨K, rfl, hQ⟩, N⟩ := hQ
  obtain ⟨X2, hS3, hZ2, ho2⟩ := rebS hS (show k0 ≤ T.heap.size by rw [X.eT]; exact hk0) X' hS2 hgr X.hZ X.hown
  exact Run.tr kk (q _ _ _ _ (X.reH X2 rfl K hS3 (Nat.le_refl _) hZ2 ho2 hC' (fun x q => (hsf x q).2) (X.fr.app N)) K hC' hQ)
theorem k_callUVF (X : WP p l e R s m args below meth c Z own mname bytes maxL ret n0 Inv Sf T h locs cells slots) {y : MethodName} {index W : Nat} {bytes' : ByteArray} {maxL' : Nat} {ret' : Option FieldType} {rm : Room} {ws : List Addr} {Q : Value → Heap → Prop} {a : Addr} {C C1 : String} {y1 y2 : MethodName} {argsL rest stk : List Value} {ps : List FieldType} {rt : Option FieldType} (hd : decode bytes pc = .ok (.invokespecial index, 3)) (w1 : (Cond.methodLink own index y).before a0 Z = true) (w2 : (Cond.instanceMethod y).before a0 Z = true) (w3 : (Cond.selects C1 y1 y2).before a0 Z = true) (h12 : y2.cls = y.cls) (w4 : (Cond.superclass own y.cls).before a0 Z = true) (wz : (Cond.initialized y.cls).before a0 Z = true) (wc : (Cond.code y bytes' maxL' ret').before a0 Z = true) (hy : y.cls ≠ "java/lang/invoke/MethodHandle" ∧ y.cls ≠ "java/lang/invoke/VarHandle") (hin : y.name ≠ "<init>") (E : Ins Z h a C true) (hM : MetF l [] Z n0 y bytes' maxL' ret' rm (.ref a :: argsL).toArray h ws (fun r h' => ∃ w, r = some w ∧ Q w h')) (hstk : stk = argsL.reverse ++ .ref a :: rest) (hpd : parseMethodDescriptor y.desc = some ⟨ps, rt⟩) (hlen : argsL.length = ps.length) (hsz : Ls.size = maxL) (hfr : rm.frames + 1 ≤ R.frames) (hW : (rest.map fun v => v.category).sum ≤ W) (hlo : W + (maxL' + 11) + rm.locals ≤ R.locals) (hc : cells + rm.cells ≤ R.cells) (hs : slots + rm.slots ≤ R.slots) (hsf : ∀ x ∈ ws, Sf h x ∧ n0 ≤ x) (hp : pc + 3 = pc')
    (q : ∀ w T' h' L', WP p l e R s m args below meth c Z own mname bytes maxL ret n0 Inv Sf T' h' L' (cells + rm.cells) (slots + rm.slots) → Keep h h' ws → Q w h' → Run p.tables e below P T' (mkF m pc' Ls (w :: rest))) : Run p.tables e below P T (mkF m pc Ls stk) := by
  subst hp
  have bk := backOf (R := R) (p := p) (e := e) (below := below) (args := args) (len := 3) (W := W) (Q := fun r h' L => (Keep h h' ws ∧ (fun r h' => ∃ w, r = some w ∧ Q w h') r h') ∧ Fr n0 L) hM X.hZ wc wz hfr hlo
  obtain ⟨r, _, ⟨T', L', k', n'⟩, -, X', ⟨Lc, hQ, l1, l2, l3⟩, kk⟩ := Jvm.RoadKit.superBack X.1 X.hx X.hZ (y := y) X.hown w1 (sameP w2 w3 h12 hy) w2 w4 hin bk X.eT E (g := mkF m pc Ls stk) rfl (by rw [X.hml]; exact hsz) wc (argsL := argsL) (rest := rest) (lenOf hpd hlen) hstk (by show 2 * 0 + _ ≤ _; omega) (hb X.hby hd) (fun _ _ => ⟨rfl, X.eT, hc, hs⟩)
  dsimp only [Pt.U, Pt.locs, Pt.cells, Pt.slots] at X' l1 l2 l3 kk hQ
  subst l1 l2 l3
  obtain ⟨⟨K, w, rfl, hQ⟩, N⟩ := hQ
  exact Run.tr kk (q _ _ _ _ (X.mv X' rfl K hsf (X.fr.app N)) K hQ)
theorem k_callUNF (X : WP p l e R s m args below meth c Z own mname bytes maxL ret n0 Inv Sf T h locs cells slots) {y : MethodName} {index W : Nat} {bytes' : ByteArray} {maxL' : Nat} {ret' : Option FieldType} {rm : Room} {ws : List Addr} {Q : Heap → Prop} {a : Addr} {C C1 : String} {y1 y2 : MethodName} {argsL rest stk : List Value} {ps : List FieldType} {rt : Option FieldType} (hd : decode bytes pc = .ok (.invokespecial index, 3)) (w1 : (Cond.methodLink own index y).before a0 Z = true) (w2 : (Cond.instanceMethod y).before a0 Z = true) (w3 : (Cond.selects C1 y1 y2).before a0 Z = true) (h12 : y2.cls = y.cls) (w4 : (Cond.superclass own y.cls).before a0 Z = true) (wz : (Cond.initialized y.cls).before a0 Z = true) (wc : (Cond.code y bytes' maxL' ret').before a0 Z = true) (hy : y.cls ≠ "java/lang/invoke/MethodHandle" ∧ y.cls ≠ "java/lang/invoke/VarHandle") (hin : y.name ≠ "<init>") (E : Ins Z h a C true) (hM : MetF l [] Z n0 y bytes' maxL' ret' rm (.ref a :: argsL).toArray h ws (fun r h' => r = none ∧ Q h')) (hstk : stk = argsL.reverse ++ .ref a :: rest) (hpd : parseMethodDescriptor y.desc = some ⟨ps, rt⟩) (hlen : argsL.length = ps.length) (hsz : Ls.size = maxL) (hfr : rm.frames + 1 ≤ R.frames) (hW : (rest.map fun v => v.category).sum ≤ W) (hlo : W + (maxL' + 11) + rm.locals ≤ R.locals) (hc : cells + rm.cells ≤ R.cells) (hs : slots + rm.slots ≤ R.slots) (hsf : ∀ x ∈ ws, Sf h x ∧ n0 ≤ x) (hp : pc + 3 = pc')
    (q : ∀ T' h' L', WP p l e R s m args below meth c Z own mname bytes maxL ret n0 Inv Sf T' h' L' (cells + rm.cells) (slots + rm.slots) → Keep h h' ws → Q h' → Run p.tables e below P T' (mkF m pc' Ls (rest))) : Run p.tables e below P T (mkF m pc Ls stk) := by
  subst hp
  have bk := backOf (R := R) (p := p) (e := e) (below := below) (args := args) (len := 3) (W := W) (Q := fun r h' L => (Keep h h' ws ∧ (fun r h' => r = none ∧ Q h') r h') ∧ Fr n0 L) hM X.hZ wc wz hfr hlo
  obtain ⟨r, _, ⟨T', L', k', n'⟩, -, X', ⟨Lc, hQ, l1, l2, l3⟩, kk⟩ := Jvm.RoadKit.superBack X.1 X.hx X.hZ (y := y) X.hown w1 (sameP w2 w3 h12 hy) w2 w4 hin bk X.eT E (g := mkF m pc Ls stk) rfl (by rw [X.hml]; exact hsz) wc (argsL := argsL) (rest := rest) (lenOf hpd hlen) hstk (by show 2 * 0 + _ ≤ _; omega) (hb X.hby hd) (fun _ _ => ⟨rfl, X.eT, hc, hs⟩)
  dsimp only [Pt.U, Pt.locs, Pt.cells, Pt.slots] at X' l1 l2 l3 kk hQ
  subst l1 l2 l3
  obtain ⟨⟨K, rfl, hQ⟩, N⟩ := hQ
  exact Run.tr kk (q _ _ _ (X.mv X' rfl K hsf (X.fr.app N)) K hQ)
theorem k_callUVH {EL : List (String × Nat)} {v : Vm} (X : WP p l e R (s.setVm v) m args below meth c Z own mname bytes maxL ret n0 (InvH Z a0 EL s v) (Safe Z EL v) T h locs cells slots) {y : MethodName} {index W : Nat} {bytes' : ByteArray} {maxL' : Nat} {ret' : Option FieldType} {rm : Room} {ws : List Addr} {Q : Value → Vm → Heap → Prop} {a : Addr} {C C1 : String} {y1 y2 : MethodName} {argsL rest stk : List Value} {ps : List FieldType} {rt : Option FieldType} (hd : decode bytes pc = .ok (.invokespecial index, 3)) (w1 : (Cond.methodLink own index y).before a0 Z = true) (w2 : (Cond.instanceMethod y).before a0 Z = true) (w3 : (Cond.selects C1 y1 y2).before a0 Z = true) (h12 : y2.cls = y.cls) (w4 : (Cond.superclass own y.cls).before a0 Z = true) (wz : (Cond.initialized y.cls).before a0 Z = true) (wc : (Cond.code y bytes' maxL' ret').before a0 Z = true) (hy : y.cls ≠ "java/lang/invoke/MethodHandle" ∧ y.cls ≠ "java/lang/invoke/VarHandle") (hin : y.name ≠ "<init>") (E : Ins Z h a C true) (hM : MetH l [] Z EL n0 y bytes' maxL' ret' rm (.ref a :: argsL).toArray h ws (fun r v' h' => ∃ w, r = some w ∧ Q w v' h')) (hstk : stk = argsL.reverse ++ .ref a :: rest) (hpd : parseMethodDescriptor y.desc = some ⟨ps, rt⟩) (hlen : argsL.length = ps.length) (hsz : Ls.size = maxL) (hfr : rm.frames + 1 ≤ R.frames) (hW : (rest.map fun v => v.category).sum ≤ W) (hlo : W + (maxL' + 11) + rm.locals ≤ R.locals) (hc : cells + rm.cells ≤ R.cells) (hs : slots + rm.slots ≤ R.slots) (hsf : ∀ x ∈ ws, (x < h.size ∧ Safe Z EL v h x) ∧ n0 ≤ x) (hp : pc + 3 = pc')
    (q : ∀ w v' T' h' L', WP p l e R (s.setVm v') m args below meth c Z own mname bytes maxL ret n0 (InvH Z a0 EL s v') (Safe Z EL v') T' h' L' (cells + rm.cells) (slots + rm.slots) → Keep h h' ws → CHr Z EL v h v' h' → Q w v' h' → Run p.tables e below P T' (mkF m pc' Ls (w :: rest))) : Run p.tables e below P T (mkF m pc Ls stk) := by
  subst hp
  obtain ⟨hEL, hWv, ⟨k0, hS, hk0⟩, hC⟩ := X.inv
  have bk := backH (R := R) (p := p) (e := e) (below := below) (s := s) (args := args) (len := 3) (W := W) hM hWv wc wz hfr hlo hEL hC.1 (fun x q => (hsf x q).1)
  obtain ⟨r, _, ⟨T', L', k', n'⟩, -, X', hS2, hgr, ⟨Lc, hQ, l1, l2, l3, hC'⟩, kk⟩ := Jvm.RoadKit.superBackS X.1 X.hx X.hZ (y := y) X.hown w1 (sameP w2 w3 h12 hy) w2 w4 hin bk X.eT E (g := mkF m pc Ls stk) rfl (by rw [X.hml]; exact hsz) wc (argsL := argsL) (rest := rest) (lenOf hpd hlen) hstk (by show 2 * 0 + _ ≤ _; omega) (hb X.hby hd) (fun _ _ => ⟨rfl, X.eT, hc, hs⟩)
  dsimp only [Pt.U, Pt.locs, Pt.cells, Pt.slots] at X' l1 l2 l3 kk hQ hS2 hgr hC'
  subst l1 l2 l3
  obtain ⟨⟨K, w, rfl, hQ⟩, N⟩ := hQ
  obtain ⟨X2, hS3, hZ2, ho2⟩ := rebS hS (show k0 ≤ T.heap.size by rw [X.eT]; exact hk0) X' hS2 hgr X.hZ X.hown
  exact Run.tr kk (q _ _ _ _ _ (X.reH X2 rfl K hS3 (Nat.le_refl _) hZ2 ho2 hC' (fun x q => (hsf x q).2) (X.fr.app N)) K hC' hQ)
theorem k_callUNH {EL : List (String × Nat)} {v : Vm} (X : WP p l e R (s.setVm v) m args below meth c Z own mname bytes maxL ret n0 (InvH Z a0 EL s v) (Safe Z EL v) T h locs cells slots) {y : MethodName} {index W : Nat} {bytes' : ByteArray} {maxL' : Nat} {ret' : Option FieldType} {rm : Room} {ws : List Addr} {Q : Vm → Heap → Prop} {a : Addr} {C C1 : String} {y1 y2 : MethodName} {argsL rest stk : List Value} {ps : List FieldType} {rt : Option FieldType} (hd : decode bytes pc = .ok (.invokespecial index, 3)) (w1 : (Cond.methodLink own index y).before a0 Z = true) (w2 : (Cond.instanceMethod y).before a0 Z = true) (w3 : (Cond.selects C1 y1 y2).before a0 Z = true) (h12 : y2.cls = y.cls) (w4 : (Cond.superclass own y.cls).before a0 Z = true) (wz : (Cond.initialized y.cls).before a0 Z = true) (wc : (Cond.code y bytes' maxL' ret').before a0 Z = true) (hy : y.cls ≠ "java/lang/invoke/MethodHandle" ∧ y.cls ≠ "java/lang/invoke/VarHandle") (hin : y.name ≠ "<init>") (E : Ins Z h a C true) (hM : MetH l [] Z EL n0 y bytes' maxL' ret' rm (.ref a :: argsL).toArray h ws (fun r v' h' => r = none ∧ Q v' h')) (hstk : stk = argsL.reverse ++ .ref a :: rest) (hpd : parseMethodDescriptor y.desc = some ⟨ps, rt⟩) (hlen : argsL.length = ps.length) (hsz : Ls.size = maxL) (hfr : rm.frames + 1 ≤ R.frames) (hW : (rest.map fun v => v.category).sum ≤ W) (hlo : W + (maxL' + 11) + rm.locals ≤ R.locals) (hc : cells + rm.cells ≤ R.cells) (hs : slots + rm.slots ≤ R.slots) (hsf : ∀ x ∈ ws, (x < h.size ∧ Safe Z EL v h x) ∧ n0 ≤ x) (hp : pc + 3 = pc')
    (q : ∀ v' T' h' L', WP p l e R (s.setVm v') m args below meth c Z own mname bytes maxL ret n0 (InvH Z a0 EL s v') (Safe Z EL v') T' h' L' (cells + rm.cells) (slots + rm.slots) → Keep h h' ws → CHr Z EL v h v' h' → Q v' h' → Run p.tables e below P T' (mkF m pc' Ls (rest))) : Run p.tables e below P T (mkF m pc Ls stk) := by
  subst hp
  obtain ⟨hEL, hWv, ⟨k0, hS, hk0⟩, hC⟩ := X.inv
  have bk := backH (R := R) (p := p) (e := e) (below := below) (s := s) (args := args) (len := 3) (W := W) hM hWv wc wz hfr hlo hEL hC.1 (fun x q => (hsf x q).1)
  obtain ⟨r, _, ⟨T', L', k', n'⟩, -, X', hS2, hgr, ⟨Lc, hQ, l1, l2, l3, hC'⟩, kk⟩ := Jvm.RoadKit.superBackS X.1 X.hx X.hZ (y := y) X.hown w1 (sameP w2 w3 h12 hy) w2 w4 hin bk X.eT E (g := mkF m pc Ls stk) rfl (by rw [X.hml]; exact hsz) wc (argsL := argsL) (rest := rest) (lenOf hpd hlen) hstk (by show 2 * 0 + _ ≤ _; omega) (hb X.hby hd) (fun _ _ => ⟨rfl, X.eT, hc, hs⟩)
  dsimp only [Pt.U, Pt.locs, Pt.cells, Pt.slots] at X' l1 l2 l3 kk hQ hS2 hgr hC'
  subst l1 l2 l3
  obtain ⟨⟨K, rfl, hQ⟩, N⟩ := hQ
  obtain ⟨X2, hS3, hZ2, ho2⟩ := rebS hS (show k0 ≤ T.heap.size by rw [X.eT]; exact hk0) X' hS2 hgr X.hZ X.hown
  exact Run.tr kk (q _ _ _ _ (X.reH X2 rfl K hS3 (Nat.le_refl _) hZ2 ho2 hC' (fun x q => (hsf x q).2) (X.fr.app N)) K hC' hQ)
end Kit
end Own
end Jvm.Pilot.@@N@@
namespace Jvm.Pilot.@@N@@
open Jvm Jvm.ClassFile Sem Op Lib Jvm.Free Jvm.Stand Jvm.LawKit Jvm.RoadKit Bundle Jvm.Pilot.@@N@@.Jvm.D
section OwnProof
open Own
theorem own_nat {i : Nat} (h : i < 2147483648) : (Int32.ofNat i).toInt = (i : Int) := by
  rw [Int32.toInt_ofNat', show Int32.size = 4294967296 from rfl]; exact Int.bmod_eq_of_le (by omega) (by omega)
theorem own_nz {n : Nat} (h0 : 0 < n) (h1 : n < 2147483648) : ¬ Int32.ofNat n = 0 := fun q => by
  have e := congrArg Int32.toInt q
  rw [own_nat h1, show (0 : Int32).toInt = 0 from by decide] at e
  omega
theorem own_clamp {i : Nat} (h : i < 2147483648) : (Int32.ofNat i).toNatClampNeg = i := by
  show (Int32.ofNat i).toInt.toNat = i
  rw [own_nat h]; rfl
theorem own_nn {i : Nat} (h : i < 2147483648) : ¬ (Int32.ofNat i < 0) := by
  rw [Int32.lt_iff_toInt_lt, own_nat h]; show ¬ ((i : Int) < 0); omega
theorem own_lt {i n : Nat} (h : i < n) (hn : n < 2147483648) : Int32.ofNat i < Int32.ofNat n := by
  rw [Int32.lt_iff_toInt_lt, own_nat (by omega), own_nat hn]; omega
theorem own_succ (i : Nat) : Int32.ofNat i + Int32.ofInt 1 = Int32.ofNat (i + 1) := by
  rw [Int32.ofNat_add]; rfl
theorem own_shl1 {i : Nat} (h : i < 1073741824) : Int32.ofNat i <<< ((1 : Int32) &&& 31) = Int32.ofNat (2 * i) := by
  apply Int32.toInt_inj.mp
  have q := c_ishl (Int32.ofNat i) 1 1 (by decide)
  rw [own_nat (by omega)] at q
  rw [own_nat (by omega)]
  have := rng32 (Int32.ofNat i <<< ((1 : Int32) &&& 31))
  omega
theorem own_i2b (x : Int32) : nar .byte (x.toInt8.toInt32) = x.toInt8.toInt32 := by
  show x.toInt8.toInt32.toInt8.toInt32 = x.toInt8.toInt32
  rw [Int8.toInt8_toInt32]
def own_lo (c : Int32) : Value := .int c.toInt8.toInt32
/-- the bytes of a compact String -/
def own_lat (cs : List Int32) : List Value := cs.map own_lo
theorem own_latlen (cs : List Int32) : (own_lat cs).length = cs.length := by simp [own_lat]
theorem own_getc (cs : List Int32) (i : Nat) : (cs.map Value.int).getD i (.int 0) = .int (cs.getD i 0) := by
  simp only [List.getD_eq_getElem?_getD, List.getElem?_map]
  cases cs[i]? <;> rfl
theorem own_getc' (cs : List Int32) {i : Nat} (h : i < 2147483648) : (cs.map Value.int).getD (Int32.ofNat i).toNatClampNeg (.int 0) = .int (cs.getD i 0) := by
  rw [own_clamp h]; exact own_getc cs i
theorem own_turn (cs : List Int32) (vs : List Value) (i : Nat) (hi : i < cs.length) (hv : vs.length = cs.length) : ((cs.take i).map own_lo ++ vs.drop i).set i (.int (cs.getD i 0).toInt8.toInt32) = (cs.take (i + 1)).map own_lo ++ vs.drop (i + 1) := by
  apply List.ext_getElem?
  intro j
  by_cases hj : j = i
  · subst hj
    have h1 : j < ((cs.take j).map own_lo ++ vs.drop j).length := by simp; omega
    rw [List.getElem?_set_self h1, List.getElem?_append_left (by simp; omega)]
    simp [hi, own_lo, List.getD_eq_getElem?_getD]
  · rw [List.getElem?_set_ne (by omega)]
    by_cases hlt : j < i
    · rw [List.getElem?_append_left (by simp; omega), List.getElem?_append_left (by simp; omega)]
      simp [hlt, show j < i + 1 by omega]
    · rw [List.getElem?_append_right (by simp; omega), List.getElem?_append_right (by simp; omega)]
      simp only [List.length_map, List.length_take, List.getElem?_drop]
      congr 1; omega
theorem own_store {x0 x1 x2 x3 x4 x5 s6 : Slot} {v : Int32} (h : One s6) (h5 : ∃ w : Int32, x5 = .val (.int w)) : storeLocals #[x0, x1, x2, x3, x4, x5, s6] 6 (.int v) = some #[x0, x1, x2, x3, x4, x5, .val (.int v)] := by
  obtain ⟨w5, rfl⟩ := h5
  rcases h with rfl | ⟨w, rfl, hw⟩
  · rfl
  · cases w <;> first | rfl | (simp [Value.category] at hw)
/-- the first place of a sign above 255, or the length -/
def own_fst : List Int32 → Nat
  | [] => 0
  | c :: cs => if 255 < c then 0 else own_fst cs + 1
theorem own_fst_le : ∀ cs : List Int32, own_fst cs ≤ cs.length
  | [] => Nat.le_refl _
  | c :: cs => by
    unfold own_fst; split
    · simp
    · have := own_fst_le cs; simp; omega
theorem own_fst_lo : ∀ (cs : List Int32) (i : Nat), i < own_fst cs → ¬ 255 < cs.getD i 0
  | [], i, h => by simp [own_fst] at h
  | c :: cs, i, h => by
    unfold own_fst at h; split at h
    · omega
    · rename_i hc
      cases i with
      | zero => simpa using hc
      | succ i => simpa using own_fst_lo cs i (by omega)
theorem own_fst_hi : ∀ (cs : List Int32), own_fst cs < cs.length → 255 < cs.getD (own_fst cs) 0
  | [], h => by simp at h
  | c :: cs, h => by
    unfold own_fst at h ⊢; split
    · rename_i hc; simpa using hc
    · rename_i hc
      rw [if_neg hc] at h
      simpa using own_fst_hi cs (by simpa using h)
theorem own_fst_all : ∀ (cs : List Int32), (∀ c ∈ cs, ¬ 255 < c) → own_fst cs = cs.length
  | [], _ => rfl
  | c :: cs, h => by
    unfold own_fst
    rw [if_neg (h c (by simp)), own_fst_all cs fun x hx => h x (by simp [hx])]; simp
theorem own_rng {Z : State} {h : Heap} {b : Addr} {kb : ClassId} {z : Int32} {cs : List Int32} (A : Arv Z h b kb .char z (cs.map Value.int) (.int 0)) (hz : z = Int32.ofNat cs.length) (hn : cs.length < 2147483648) : ∀ i, i < cs.length → ¬ cs.getD i 0 < 0 ∧ ¬ 65535 < cs.getD i 0 := by
  intro i hi
  obtain ⟨cl, -, -, S, -, -, Gq⟩ := A
  have q := Gq i (by rw [S, hz, own_clamp hn]; exact hi)
  rw [own_getc] at q
  exact rng_char q
theorem own_and255 (x : Int32) : ¬ 255 < x &&& 255 := by
  have q := (c_and x 255 (by decide)).2
  rw [Int32.lt_iff_toInt_lt]; show ¬ ((255 : Int) < _); exact Int.not_lt.mpr q
theorem own_al0 : ∀ c ∈ ([] : List Int32), ¬ 255 < c := fun _ q => nomatch q
theorem own_alS {c : Int32} {L : List Int32} (q : ¬ 255 < c) (r : ∀ x ∈ L, ¬ 255 < x) : ∀ x ∈ c :: L, ¬ 255 < x := fun x z => (List.mem_cons.mp z).elim (fun u => u ▸ q) (r x)
def own_hi (c : Int32) : Value := .int (c >>> ((8 : Int32) &&& 31)).toInt8.toInt32
/-- the bytes of a String that is not compact -/
def own_u16 : List Int32 → List Value
  | [] => []
  | c :: cs => own_lo c :: own_hi c :: own_u16 cs
theorem own_u16len : ∀ cs : List Int32, (own_u16 cs).length = 2 * cs.length
  | [] => rfl
  | c :: cs => by simp [own_u16, own_u16len cs]; omega
theorem own_u16lo : ∀ (cs : List Int32) (j : Nat) (d : Value), j < cs.length → (own_u16 cs).getD (2 * j) d = own_lo (cs.getD j 0)
  | [], j, d, h => by simp at h
  | c :: cs, 0, d, h => by simp [own_u16]
  | c :: cs, j + 1, d, h => by
    have e : 2 * (j + 1) = 2 * j + 1 + 1 := by omega
    rw [e]; simpa [own_u16] using own_u16lo cs j d (by simpa using h)
theorem own_u16hi : ∀ (cs : List Int32) (j : Nat) (d : Value), j < cs.length → (own_u16 cs).getD (2 * j + 1) d = own_hi (cs.getD j 0)
  | [], j, d, h => by simp at h
  | c :: cs, 0, d, h => by simp [own_u16]
  | c :: cs, j + 1, d, h => by
    have e : 2 * (j + 1) + 1 = 2 * j + 1 + 1 + 1 := by omega
    rw [e]; simpa [own_u16] using own_u16hi cs j d (by simpa using h)
theorem own_u16turn : ∀ (cs : List Int32) (i : Nat), i < cs.length → ((own_u16 (cs.take i) ++ List.replicate (2 * (cs.length - i)) (Value.int (0 : Int32))).set (2 * i) (own_lo (cs.getD i 0))).set (2 * i + 1) (own_hi (cs.getD i 0)) = own_u16 (cs.take (i + 1)) ++ List.replicate (2 * (cs.length - (i + 1))) (Value.int (0 : Int32))
  | [], i, h => by simp at h
  | c :: cs, 0, h => by
    have e : 2 * ((c :: cs).length - 0) = 2 * cs.length + 1 + 1 := by simp; omega
    rw [e]; simp [own_u16, List.replicate_succ]
  | c :: cs, i + 1, h => by
    have e : 2 * (i + 1) = 2 * i + 1 + 1 := by omega
    have e2 : (c :: cs).length - (i + 1) = cs.length - i := by simp
    have e3 : (c :: cs).length - (i + 1 + 1) = cs.length - (i + 1) := by simp
    have q := own_u16turn cs i (by simpa using h)
    rw [e, e2, e3]
    simpa [own_u16] using q
theorem own_u16l (cs : List Int32) (i : Nat) (h : i ≤ cs.length) : (own_u16 (cs.take i) ++ List.replicate (2 * (cs.length - i)) (Value.int (0 : Int32))).length = 2 * cs.length := by
  rw [List.length_append, own_u16len, List.length_take, List.length_replicate, Nat.min_eq_left h]; omega
theorem own_shr0 (x : Int32) : x >>> ((0 : Int32) &&& 31) = x := by
  apply Int32.toInt_inj.mp
  rw [c_ishr x 0 0 (by decide)]; simp
theorem own_shl0 (x : Int32) : x <<< ((0 : Int32) &&& 31) = x := by
  apply Int32.toInt_inj.mp
  have q := c_ishl x 0 0 (by decide)
  have h1 := rng32 x; have h2 := rng32 (x <<< ((0 : Int32) &&& 31))
  omega
theorem own_join {c : Int32} (h0 : ¬ c < 0) (h1 : ¬ 65535 < c) : (((c.toInt8.toInt32 &&& 255) ||| (((c >>> ((8 : Int32) &&& 31)).toInt8.toInt32 &&& 255) <<< ((8 : Int32) &&& 31))).toUInt32.toUInt16.toUInt32.toInt32) = c := by
  have k0 : 0 ≤ c.toInt := by rw [Int32.lt_iff_toInt_lt] at h0; exact Int.not_lt.mp h0
  have k1 : c.toInt ≤ 65535 := by rw [Int32.lt_iff_toInt_lt] at h1; exact Int.not_lt.mp h1
  have a1 := c_i2b c
  have a2 := c_mask c.toInt8.toInt32 255 8 (by decide) (by decide)
  have b0 := c_ishr c 8 8 (by decide)
  have b1 := c_i2b (c >>> ((8 : Int32) &&& 31))
  have b2 := c_mask (c >>> ((8 : Int32) &&& 31)).toInt8.toInt32 255 8 (by decide) (by decide)
  generalize (c >>> ((8 : Int32) &&& 31)).toInt8.toInt32 = y at b1 b2 ⊢
  generalize c.toInt8.toInt32 = x at a1 a2 ⊢
  have b3 := c_ishl (y &&& 255) 8 8 (by decide)
  have r3 := rng32 ((y &&& 255) <<< ((8 : Int32) &&& 31))
  have v3 : ((y &&& 255) <<< ((8 : Int32) &&& 31)).toInt = (y &&& 255).toInt * 256 := by omega
  have o := c_or' (x &&& 255) ((y &&& 255) <<< ((8 : Int32) &&& 31)) 8 (by decide) 256 (by decide) (by rw [v3]; omega) (by omega) (by omega)
  have r4 := rng32 ((x &&& 255) ||| ((y &&& 255) <<< ((8 : Int32) &&& 31)))
  have f := c_i2c ((x &&& 255) ||| ((y &&& 255) <<< ((8 : Int32) &&& 31)))
  apply Int32.toInt_inj.mp
  omega
theorem own_neg31 {n : Nat} (h0 : 0 < n) (h1 : n < 1073741824) : (((Int32.ofNat n - Int32.ofNat (2 * n)).toUInt32 >>> ((31 : Int32) &&& 31).toUInt32).toInt32) = 1 := by
  apply Int32.toInt_inj.mp
  rw [c_iushr _ 31 31 (by decide) (by decide)]
  have q := c_isub (Int32.ofNat n) (Int32.ofNat (2 * n))
  rw [own_nat (by omega), own_nat (by omega)] at q
  have r := rng32 (Int32.ofNat n - Int32.ofNat (2 * n))
  show _ = (1 : Int)
  omega
/-- what a String of these signs holds -/
def own_cod (cs : List Int32) (cd zz : Int32) (bs : List Value) : Prop := (own_fst cs = cs.length ∧ cd = 0 ∧ zz = Int32.ofNat cs.length ∧ bs = own_lat cs) ∨ (own_fst cs < cs.length ∧ cd = 1 ∧ zz = Int32.ofNat (2 * cs.length) ∧ bs = own_u16 cs)
theorem own_all_of_fst {cs : List Int32} (h : own_fst cs = cs.length) : ∀ c ∈ cs, ¬ 255 < c := fun c hc => by
  obtain ⟨i, hi, e⟩ := List.getElem_of_mem hc
  have q := own_fst_lo cs i (by omega)
  rw [List.getD_eq_getElem?_getD, List.getElem?_eq_getElem hi] at q
  rw [← e]; simpa using q
theorem own_i2c_id {c : Int32} (h0 : ¬ c < 0) (h1 : ¬ 65535 < c) : nar .char c = c := by
  have k0 : 0 ≤ c.toInt := by rw [Int32.lt_iff_toInt_lt] at h0; exact Int.not_lt.mp h0
  have k1 : c.toInt ≤ 65535 := by rw [Int32.lt_iff_toInt_lt] at h1; exact Int.not_lt.mp h1
  have f := c_i2c c
  apply Int32.toInt_inj.mp
  show (c.toUInt32.toUInt16.toUInt32.toInt32).toInt = _
  omega
theorem own_cod_len {cs : List Int32} {cd zz : Int32} {bs : List Value} (h : own_cod cs cd zz bs) (hn : cs.length < 1073741824) : zz >>> (cd &&& 31) = Int32.ofNat cs.length := by
  rcases h with ⟨-, rfl, rfl, rfl⟩ | ⟨-, rfl, rfl, rfl⟩
  · exact own_shr0 _
  · apply Int32.toInt_inj.mp
    rw [c_ishr _ 1 1 (by decide), own_nat (by omega), own_nat (by omega)]; omega
theorem own_shr1 {n : Nat} (hn : n < 1073741824) : Int32.ofNat (2 * n) >>> ((1 : Int32) &&& 31) = Int32.ofNat n := by
  apply Int32.toInt_inj.mp
  rw [c_ishr _ 1 1 (by decide), own_nat (by omega), own_nat (by omega)]; omega
theorem own_cod_cd {cs : List Int32} {cd zz : Int32} {bs : List Value} (h : own_cod cs cd zz bs) : cd = 0 ∨ cd = 1 := by
  rcases h with ⟨-, rfl, -⟩ | ⟨-, rfl, -⟩
  · exact Or.inl rfl
  · exact Or.inr rfl
theorem own_nar01 {cd : Int32} (h : cd = 0 ∨ cd = 1) : nar .byte cd = cd := by rcases h with rfl | rfl <;> decide
theorem own_latget (cs : List Int32) {i : Nat} (hi : i < cs.length) (h : i < 2147483648) : (own_lat cs).getD (Int32.ofNat i).toNatClampNeg (.int (0 : Int32)) = .int (cs.getD i 0).toInt8.toInt32 := by
  rw [own_clamp h, own_lat, List.getD_eq_getElem?_getD, List.getD_eq_getElem?_getD, List.getElem?_map, List.getElem?_eq_getElem hi]; rfl
theorem own_back8 {c : Int32} (h0 : ¬ c < 0) (h1 : ¬ 255 < c) : ((c.toInt8.toInt32 &&& 255).toUInt32.toUInt16.toUInt32.toInt32) = c := by
  rw [i2c_mask]
  have k0 : 0 ≤ c.toInt := by rw [Int32.lt_iff_toInt_lt] at h0; exact Int.not_lt.mp h0
  have k1 : c.toInt ≤ 255 := by rw [Int32.lt_iff_toInt_lt] at h1; exact Int.not_lt.mp h1
  have a1 := c_i2b c
  have a2 := c_mask c.toInt8.toInt32 255 8 (by decide) (by decide)
  apply Int32.toInt_inj.mp
  omega
theorem own_255 {c : Int32} (h : ¬ 255 < c) : ¬ 65535 < c := by
  intro q; apply h; rw [Int32.lt_iff_toInt_lt] at q ⊢
  have : (65535 : Int32).toInt = 65535 := by decide
  have : (255 : Int32).toInt = 255 := by decide
  omega
theorem own_lat_rng {cs : List Int32} (hf : own_fst cs = cs.length) {i : Nat} (hi : i < cs.length) : ¬ 255 < cs.getD i 0 := own_fst_lo cs i (by omega)
/-- 1 where they are one text, else 0 -/
def own_eqv (cs ds : List Int32) : Int32 := if cs = ds then 1 else 0
def own_li (cs : List Int32) : List Int32 := cs.map fun c => c.toInt8.toInt32
theorem own_li_eq (cs : List Int32) : own_lat cs = (own_li cs).map Value.int := by simp [own_lat, own_li, own_lo, Function.comp_def]
def own_ui : List Int32 → List Int32
  | [] => []
  | c :: cs => c.toInt8.toInt32 :: (c >>> ((8 : Int32) &&& 31)).toInt8.toInt32 :: own_ui cs
theorem own_ui_eq : ∀ cs : List Int32, own_u16 cs = (own_ui cs).map Value.int
  | [] => rfl
  | c :: cs => by simp [own_u16, own_ui, own_lo, own_hi, own_ui_eq cs]
theorem own_li_len (cs : List Int32) : (own_li cs).length = cs.length := by simp [own_li]
theorem own_ui_len : ∀ cs : List Int32, (own_ui cs).length = 2 * cs.length
  | [] => rfl
  | c :: cs => by simp [own_ui, own_ui_len cs]; omega
theorem own_li_inj : ∀ {cs ds : List Int32}, (∀ c ∈ cs, ¬ c < 0 ∧ ¬ 255 < c) → (∀ c ∈ ds, ¬ c < 0 ∧ ¬ 255 < c) → own_li cs = own_li ds → cs = ds
  | [], [], _, _, _ => rfl
  | [], d :: ds, _, _, h => by simp [own_li] at h
  | c :: cs, [], _, _, h => by simp [own_li] at h
  | c :: cs, d :: ds, hc, hd, h => by
    simp only [own_li, List.map_cons, List.cons.injEq] at h
    have q1 := own_back8 (hc c (by simp)).1 (hc c (by simp)).2
    have q2 := own_back8 (hd d (by simp)).1 (hd d (by simp)).2
    rw [h.1, q2] at q1
    rw [q1, own_li_inj (fun x hx => hc x (by simp [hx])) (fun x hx => hd x (by simp [hx])) h.2]
theorem own_ui_inj : ∀ {cs ds : List Int32}, (∀ c ∈ cs, ¬ c < 0 ∧ ¬ 65535 < c) → (∀ c ∈ ds, ¬ c < 0 ∧ ¬ 65535 < c) → own_ui cs = own_ui ds → cs = ds
  | [], [], _, _, _ => rfl
  | [], d :: ds, _, _, h => by simp [own_ui] at h
  | c :: cs, [], _, _, h => by simp [own_ui] at h
  | c :: cs, d :: ds, hc, hd, h => by
    simp only [own_ui, List.cons.injEq] at h
    have q1 := own_join (hc c (by simp)).1 (hc c (by simp)).2
    have q2 := own_join (hd d (by simp)).1 (hd d (by simp)).2
    rw [h.1, h.2.1, q2] at q1
    rw [q1, own_ui_inj (fun x hx => hc x (by simp [hx])) (fun x hx => hd x (by simp [hx])) h.2.2]
theorem own_ext (is js : List Int32) (hl : is.length = js.length) (h : ∀ i, i < is.length → is.getD i 0 = js.getD i 0) : is = js := by
  apply List.ext_getElem hl
  intro i h1 h2
  have q := h i h1
  simpa [List.getD_eq_getElem?_getD, h1, h2] using q
/-- all signs are chars -/
def own_chs (cs : List Int32) : Prop := ∀ c ∈ cs, ¬ c < 0 ∧ ¬ 65535 < c
theorem own_chs_at {cs : List Int32} (h : own_chs cs) {i : Nat} (hi : i < cs.length) : ¬ cs.getD i 0 < 0 ∧ ¬ 65535 < cs.getD i 0 := by
  rw [List.getD_eq_getElem?_getD, List.getElem?_eq_getElem hi]; exact h _ (List.getElem_mem hi)
theorem own_cod_eq {cs ds : List Int32} {cd zz ze : Int32} {bs be : List Value} {ib ie : List Int32} (h1 : own_cod cs cd zz bs) (h2 : own_cod ds cd ze be) (k1 : own_chs cs) (k2 : own_chs ds) (e1 : bs = ib.map Value.int) (e2 : be = ie.map Value.int) : own_eqv ib ie = own_eqv cs ds := by
  have inj : ∀ {x y : List Int32}, x.map Value.int = y.map Value.int → x = y := fun {x y} q => by
    have := congrArg (List.map fun v => match v with | Value.int z => z | _ => 0) q
    simpa [Function.comp_def] using this
  have key : ib = ie ↔ cs = ds := by
    rcases h1 with ⟨f1, rfl, -, rfl⟩ | ⟨f1, rfl, -, rfl⟩
    · rcases h2 with ⟨f2, -, -, rfl⟩ | ⟨f2, q, -⟩
      · rw [own_li_eq] at e1 e2
        have a1 := inj e1; have a2 := inj e2
        subst a1 a2
        exact ⟨own_li_inj (fun c hc => ⟨(k1 c hc).1, own_all_of_fst f1 c hc⟩) (fun c hc => ⟨(k2 c hc).1, own_all_of_fst f2 c hc⟩), fun q => by rw [q]⟩
      · exact absurd q (by decide)
    · rcases h2 with ⟨f2, q, -⟩ | ⟨f2, -, -, rfl⟩
      · exact absurd q (by decide)
      · rw [own_ui_eq] at e1 e2
        have a1 := inj e1; have a2 := inj e2
        subst a1 a2
        exact ⟨own_ui_inj k1 k2, fun q => by rw [q]⟩
  unfold own_eqv
  by_cases q : cs = ds
  · rw [if_pos q, if_pos (key.mpr q)]
  · rw [if_neg q, if_neg fun r => q (key.mp r)]
theorem own_cod_ne {cs ds : List Int32} {cd ce zz ze : Int32} {bs be : List Value} (h1 : own_cod cs cd zz bs) (h2 : own_cod ds ce ze be) (hne : ¬ cd = ce) : own_eqv cs ds = 0 := by
  unfold own_eqv
  rw [if_neg]
  intro q; subst q
  rcases h1 with ⟨f1, rfl, -⟩ | ⟨f1, rfl, -⟩ <;> rcases h2 with ⟨f2, rfl, -⟩ | ⟨f2, rfl, -⟩ <;> first | exact hne rfl | omega
theorem own_cod_ints {cs : List Int32} {cd zz : Int32} {bs : List Value} (h : own_cod cs cd zz bs) : ∃ ib : List Int32, bs = ib.map Value.int ∧ zz = Int32.ofNat ib.length ∧ ib.length ≤ 2 * cs.length := by
  rcases h with ⟨-, -, rfl, rfl⟩ | ⟨-, -, rfl, rfl⟩
  · exact ⟨own_li cs, own_li_eq cs, by rw [own_li_len], by rw [own_li_len]; omega⟩
  · exact ⟨own_ui cs, own_ui_eq cs, by rw [own_ui_len], by rw [own_ui_len]; omega⟩
theorem own_eqv01 (cs ds : List Int32) : own_eqv cs ds = 0 ∨ own_eqv cs ds = 1 := by unfold own_eqv; split <;> simp
theorem own_nz01 {x : Int32} (h : x = 0 ∨ x = 1) : nar .boolean x = x := by rcases h with rfl | rfl <;> decide
theorem own_same_txt {Z : State} {h : Heap} {t : Addr} {k1 k2 : ClassId} {cd zz ze : Int32} {bs be : List Value} {cs ds : List Int32} (A : Arv Z h t k1 .byte zz bs (.int 0)) (B : Arv Z h t k2 .byte ze be (.int 0)) (h1 : own_cod cs cd zz bs) (h2 : own_cod ds cd ze be) (k1 : own_chs cs) (k2 : own_chs ds) (n1 : cs.length < 536870912) (n2 : ds.length < 536870912) : own_eqv cs ds = 1 := by
  obtain ⟨ib, ei, ezi, eli⟩ := own_cod_ints h1
  obtain ⟨ie, ej, ezj, elj⟩ := own_cod_ints h2
  have key := own_cod_eq h1 h2 k1 k2 ei ej
  rw [← key]
  apply if_pos
  have e1 : zz.toNatClampNeg = ib.length := by rw [ezi]; exact own_clamp (by omega)
  have e2 : ze.toNatClampNeg = ie.length := by rw [ezj]; exact own_clamp (by omega)
  have hl : ib.length = ie.length := by
    rcases Nat.decEq ib.length ie.length with q | q
    · exact absurd rfl (arv_ne A B (Or.inl (by rw [e1, e2]; exact q)))
    · exact q
  refine own_ext ib ie hl fun i hi => ?_
  rcases (inferInstance : Decidable (ib.getD i 0 = ie.getD i 0)) with q | q
  · refine absurd rfl (arv_ne A B (Or.inr ⟨i, by rw [e1]; exact hi, fun r => q ?_⟩))
    rw [ei, ej, own_getc, own_getc] at r
    exact Value.int.inj r
  · exact q
/-- the first place of the sign, or the length -/
def own_pos (ch : Int32) : List Int32 → Nat
  | [] => 0
  | c :: cs => if c = ch then 0 else own_pos ch cs + 1
theorem own_pos_le (ch : Int32) : ∀ cs : List Int32, own_pos ch cs ≤ cs.length
  | [] => Nat.le_refl _
  | c :: cs => by
    unfold own_pos; split
    · simp
    · have := own_pos_le ch cs; simp; omega
theorem own_pos_ne (ch : Int32) : ∀ (cs : List Int32) (i : Nat), i < own_pos ch cs → ¬ cs.getD i 0 = ch
  | [], i, h => by simp [own_pos] at h
  | c :: cs, i, h => by
    unfold own_pos at h; split at h
    · omega
    · rename_i hc
      cases i with
      | zero => simpa using hc
      | succ i => simpa using own_pos_ne ch cs i (by omega)
theorem own_pos_eq (ch : Int32) : ∀ (cs : List Int32), own_pos ch cs < cs.length → cs.getD (own_pos ch cs) 0 = ch
  | [], h => by simp at h
  | c :: cs, h => by
    unfold own_pos at h ⊢; split
    · rename_i hc; simpa using hc
    · rename_i hc
      rw [if_neg hc] at h
      simpa using own_pos_eq ch cs (by simpa using h)
/-- indexOf -/
def own_ix (ch : Int32) (cs : List Int32) : Int32 := if own_pos ch cs < cs.length then Int32.ofNat (own_pos ch cs) else -1
theorem own_b44 {c : Int32} (h0 : ¬ c < 0) (h1 : ¬ 255 < c) (ch : Int32) (k0 : ¬ ch < 0) (k1 : ¬ 255 < ch) : c.toInt8.toInt32 = ch.toInt8.toInt32 ↔ c = ch := by
  refine ⟨fun q => ?_, fun q => by rw [q]⟩
  have a := own_back8 h0 h1; have b := own_back8 k0 k1
  rw [q] at a; exact a.symm.trans b
theorem own_i2c_rng (x : Int32) : ¬ x.toUInt32.toUInt16.toUInt32.toInt32 < 0 ∧ ¬ 65535 < x.toUInt32.toUInt16.toUInt32.toInt32 := by
  have f := c_i2c x
  constructor
  · rw [Int32.lt_iff_toInt_lt, show (0 : Int32).toInt = 0 from by decide]; omega
  · rw [Int32.lt_iff_toInt_lt, show (65535 : Int32).toInt = 65535 from by decide]; omega
theorem own_c0 : own_chs [] := fun _ q => nomatch q
theorem own_cS {c : Int32} {L : List Int32} (q : ¬ c < 0 ∧ ¬ 65535 < c) (r : own_chs L) : own_chs (c :: L) := fun x z => (List.mem_cons.mp z).elim (fun u => u ▸ q) (r x)
theorem own_inj {a b : Nat} (ha : a < 2147483648) (hb : b < 2147483648) (h : Int32.ofNat a = Int32.ofNat b) : a = b := by
  have q := congrArg Int32.toNatClampNeg h
  rwa [own_clamp ha, own_clamp hb] at q
theorem own_subn {f n : Nat} : Int32.ofNat (f + n) - Int32.ofNat f = Int32.ofNat n := by
  rw [Int32.ofNat_add, Int32.add_comm, Int32.add_sub_cancel]
theorem own_subm {f n : Nat} (h : f ≤ n) : Int32.ofNat n - Int32.ofNat f = Int32.ofNat (n - f) := by
  rw [show Int32.ofNat n = Int32.ofNat (f + (n - f)) from by rw [Nat.add_sub_cancel' h]]; exact own_subn
theorem own_nlt {a b : Nat} (h : a ≤ b) (hb : b < 2147483648) : ¬ Int32.ofNat b < Int32.ofNat a := by
  rw [Int32.lt_iff_toInt_lt, own_nat hb, own_nat (by omega)]; omega
theorem own_orn {a b : Nat} (ha : a < 2147483648) (hb : b < 2147483648) : ¬ ((Int32.ofNat a ||| (0 : Int32)) ||| Int32.ofNat b) < 0 := by
  rw [Int32.or_zero]
  have e : Int32.ofNat a ||| Int32.ofNat b = Int32.ofNat (a ||| b) := by
    apply Int32.toBitVec_inj.mp
    rw [Int32.toBitVec_or, Int32.toBitVec_ofNat', Int32.toBitVec_ofNat', Int32.toBitVec_ofNat', BitVec.ofNat_or]
  rw [e]; exact own_nn (Nat.or_lt_two_pow (n := 31) ha hb)
theorem own_cpy (vs : List Value) (d : Value) (f n : Nat) (w : Value) (h : f + n ≤ vs.length) : (List.replicate n w).take 0 ++ (List.range n).map (fun i => vs.getD (f + i) d) ++ (List.replicate n w).drop (0 + n) = (vs.drop f).take n := by
  apply List.ext_getElem?
  intro j
  by_cases hj : j < n
  · simp [hj, List.getElem?_append, List.getElem?_take, List.getD_eq_getElem?_getD]
    rw [List.getElem?_eq_getElem (show f + j < vs.length by omega)]; rfl
  · simp [hj, List.getElem?_append, List.getElem?_take]
theorem own_gset {L : List Int32} {i j : Nat} {x : Int32} (h : i ≠ j) : (L.set i x).getD j 0 = L.getD j 0 := by
  rw [List.getD_eq_getElem?_getD, List.getElem?_set_ne h, List.getD_eq_getElem?_getD]
theorem own_gself {L : List Int32} {i : Nat} {x : Int32} (h : i < L.length) : (L.set i x).getD i 0 = x := by
  rw [List.getD_eq_getElem?_getD, List.getElem?_set_self h]; rfl
theorem own_grep (n j : Nat) : (List.replicate n (0 : Int32)).getD j 0 = 0 := by
  rw [List.getD_eq_getElem?_getD, List.getElem?_replicate]; split <;> rfl
theorem own_mset (cs : List Int32) (i : Nat) (x : Int32) : (cs.map Value.int).set i (.int x) = (cs.set i x).map Value.int := List.map_set.symm
theorem own_padz (n i : Nat) : ((List.replicate n (0 : Int32)).map Value.int).getD i (.int 0) = ([] : List Value).getD i (.int 0) := by
  rw [List.map_replicate, List.getD_eq_getElem?_getD, List.getElem?_replicate]; split <;> rfl
theorem own_takeg {cs : List Int32} {n i : Nat} (h : i < n) : (cs.take n).getD i 0 = cs.getD i 0 := by
  rw [List.getD_eq_getElem?_getD, List.getElem?_take_of_lt h, List.getD_eq_getElem?_getD]
def own_minv (x z : Int32) : Int32 := if z < x then z else x
theorem own_min_nat {a b : Nat} (ha : a < 2147483648) (hb : b < 2147483648) : own_minv (Int32.ofNat a) (Int32.ofNat b) = Int32.ofNat (min a b) := by
  unfold own_minv
  simp only [Int32.lt_iff_toInt_lt, own_nat ha, own_nat hb]
  by_cases h : b < a
  · rw [if_pos (by omega), Nat.min_eq_right (by omega)]
  · rw [if_neg (by omega), Nat.min_eq_left (by omega)]
theorem own_min_r {a b : Nat} (h : b ≤ a) (ha : a < 2147483648) : own_minv (Int32.ofNat a) (Int32.ofNat b) = Int32.ofNat b := by
  rw [own_min_nat ha (by omega), Nat.min_eq_right h]
theorem own_lat_cut (cs : List Int32) (f n : Nat) : ((own_lat cs).drop f).take n = own_lat ((cs.drop f).take n) := by
  simp [own_lat, List.map_drop, List.map_take]
theorem own_u16_take : ∀ (cs : List Int32) (n : Nat), (own_u16 cs).take (2 * n) = own_u16 (cs.take n)
  | [], n => by simp [own_u16]
  | c :: cs, 0 => by simp [own_u16]
  | c :: cs, n + 1 => by
    rw [show 2 * (n + 1) = 2 * n + 1 + 1 by omega]
    simp [own_u16, own_u16_take cs n]
theorem own_fst_cut {cs : List Int32} (h : own_fst cs = cs.length) (f n : Nat) : own_fst ((cs.drop f).take n) = ((cs.drop f).take n).length :=
  own_fst_all _ fun c hc => own_all_of_fst h c (List.mem_of_mem_drop (List.mem_of_mem_take hc))
theorem own_chs_take {cs : List Int32} (h : own_chs cs) (n : Nat) : own_chs (cs.take n) := fun c hc => h c (List.mem_of_mem_take hc)
theorem own_chs_set {cs : List Int32} (h : own_chs cs) {i : Nat} {x : Int32} (hx : ¬ x < 0 ∧ ¬ 65535 < x) : own_chs (cs.set i x) := fun c hc => by
  rcases List.mem_or_eq_of_mem_set hc with q | q
  · exact h c q
  · subst q; exact hx
theorem own_chs_rep (n : Nat) : own_chs (List.replicate n 0) := fun c hc => by
  rw [List.eq_of_mem_replicate hc]; decide
/-- Latin-1 signs -/
def own_l1 (cs : List Int32) : Prop := ∀ c ∈ cs, ¬ c < 0 ∧ ¬ 255 < c
theorem own_l10 : own_l1 [] := fun _ q => nomatch q
theorem own_l1S {c : Int32} {L : List Int32} (q : ¬ c < 0 ∧ ¬ 255 < c) (r : own_l1 L) : own_l1 (c :: L) := fun x z => (List.mem_cons.mp z).elim (fun u => u ▸ q) (r x)
theorem own_l1_all {cs : List Int32} (h : own_l1 cs) : ∀ c ∈ cs, ¬ 255 < c := fun c hc => (h c hc).2
theorem own_l1_chs {cs : List Int32} (h : own_l1 cs) : own_chs cs := fun c hc => ⟨(h c hc).1, own_255 (h c hc).2⟩
theorem own_l1_fst {cs : List Int32} (h : own_l1 cs) : own_fst cs = cs.length := own_fst_all cs (own_l1_all h)
theorem own_codOfL {cs : List Int32} (h : own_l1 cs) : own_cod cs 0 (Int32.ofNat cs.length) (own_lat cs) := Or.inl ⟨own_l1_fst h, rfl, rfl, rfl⟩
theorem own_mask_rng (x : Int32) : ¬ (x &&& 255) < 0 ∧ ¬ 255 < (x &&& 255) := ⟨by
  have q := (c_and x 255 (by decide)).1
  rw [Int32.lt_iff_toInt_lt]; show ¬ (_ < (0 : Int)); exact Int.not_lt.mpr q, own_and255 x⟩
theorem own_eqv_self (cs : List Int32) : own_eqv cs cs = 1 := if_pos rfl
theorem own_lat0 (n : Nat) : own_lat (List.replicate n 0) = List.replicate n (.int 0) := by
  rw [own_lat, List.map_replicate]; rfl
/-- text put into the buffer at a place -/
def own_put (B : List Int32) (p : Nat) (cs : List Int32) : List Int32 := B.take p ++ cs ++ B.drop (p + cs.length)
theorem own_put_len {B cs : List Int32} {p : Nat} (h : p + cs.length ≤ B.length) : (own_put B p cs).length = B.length := by
  simp only [own_put, List.length_append, List.length_take, List.length_drop]; omega
theorem own_put_l1 {B cs : List Int32} {p : Nat} (hB : own_l1 B) (hc : own_l1 cs) : own_l1 (own_put B p cs) := fun x hx => by
  simp only [own_put, List.mem_append] at hx
  rcases hx with (q | q) | q
  · exact hB x (List.mem_of_mem_take q)
  · exact hc x q
  · exact hB x (List.mem_of_mem_drop q)
theorem own_put_all {B cs : List Int32} : (own_put B 0 cs).take cs.length = cs := by simp [own_put]
theorem own_put_low {B cs : List Int32} {p n : Nat} (hn : n ≤ p) (hp : p ≤ B.length) : (own_put B p cs).take n = B.take n := by
  rw [own_put, List.append_assoc, List.take_append_of_le_length (by rw [List.length_take]; omega), List.take_take, Nat.min_eq_left hn]
theorem own_put_cpy (B cs : List Int32) (p : Nat) (hp : p + cs.length ≤ B.length) : (own_lat B).take p ++ (List.range cs.length).map (fun i => (own_lat cs).getD (0 + i) (.int 0)) ++ (own_lat B).drop (p + cs.length) = own_lat (own_put B p cs) := by
  have e : (List.range cs.length).map (fun i => (own_lat cs).getD (0 + i) (.int 0)) = own_lat cs := by
    apply List.ext_getElem
    · simp [own_lat]
    · intro i h1 h2
      simp [own_lat] at h2
      simp [own_lat, List.getD_eq_getElem?_getD, h2]
  rw [e]; simp [own_put, own_lat, List.map_take, List.map_drop]
theorem own_le16 {m k : Nat} (h : m ≤ k) (hk : k < 1000000) : ¬ (0 : Int32) < Int32.ofNat m - Int32.ofNat k := by
  have q := c_isub (Int32.ofNat m) (Int32.ofNat k)
  rw [own_nat (by omega), own_nat (by omega)] at q
  have r := rng32 (Int32.ofNat m - Int32.ofNat k)
  rw [Int32.lt_iff_toInt_lt]; show ¬ ((0 : Int) < _); omega
theorem own_rep_l1 (n : Nat) : own_l1 (List.replicate n 0) := fun c hc => by
  rw [List.eq_of_mem_replicate hc]; decide
def own_mkP (l : Int32) (cs : List Int32) : Prop := own_l1 cs ∧ cs.length ≤ 3 ∧ l = Int32.ofNat cs.length
def own_0123 (l : Int32) : Prop := l = 0 ∨ l = 1 ∨ l = 2 ∨ l = 3
theorem own_and3 (x : Int32) : own_0123 (x &&& 3) := by
  have q := c_mask x 3 2 (by decide) (by decide)
  have e : ((2 ^ 2 : Nat) : Int) = 4 := by decide
  rw [e] at q
  have h : (x &&& 3).toInt = 0 ∨ (x &&& 3).toInt = 1 ∨ (x &&& 3).toInt = 2 ∨ (x &&& 3).toInt = 3 := by omega
  rcases h with h | h | h | h
  · exact Or.inl (Int32.toInt_inj.mp h)
  · exact Or.inr (Or.inl (Int32.toInt_inj.mp h))
  · exact Or.inr (Or.inr (Or.inl (Int32.toInt_inj.mp h)))
  · exact Or.inr (Or.inr (Or.inr (Int32.toInt_inj.mp h)))
theorem own_addne {d k : Int32} (h : ¬ k = 0) : ¬ d = d + k := fun q => h (by
  have e : d + k = d + 0 := by rw [Int32.add_zero]; exact q.symm
  exact (Int32.add_right_inj d).mp e)
/-- how much deeper -/
def own_up (k : Int32) : Prop := 0 ≤ k.toInt ∧ k.toInt ≤ 268435456
theorem own_up0 : own_up 0 := ⟨by decide, by decide⟩
theorem own_up1 (x : Int32) : own_up (1 + (x &&& 268435455)) ∧ ¬ (1 + (x &&& 268435455)) = 0 := by
  have q := c_and x 268435455 (by decide)
  have e : (268435455 : Int32).toInt = 268435455 := by decide
  rw [e] at q
  have a := c_iadd 1 (x &&& 268435455)
  rw [show (1 : Int32).toInt = 1 from by decide] at a
  have r := rng32 (1 + (x &&& 268435455))
  refine ⟨⟨by omega, by omega⟩, fun z => ?_⟩
  have := congrArg Int32.toInt z
  rw [show (0 : Int32).toInt = 0 from by decide] at this
  omega
theorem own_deep {x y d1 d2 k : Int32} (h1 : 1 + (x &&& 1073741823) = d1) (h2 : d1 + 1 + (y &&& 268435455) = d2) (hk : own_up k) : ¬ d1 = d2 + k := by
  subst h1
  have q := c_and x 1073741823 (by decide)
  rw [show (1073741823 : Int32).toInt = 1073741823 from by decide] at q
  have q2 := c_and y 268435455 (by decide)
  rw [show (268435455 : Int32).toInt = 268435455 from by decide] at q2
  have a := c_iadd 1 (x &&& 1073741823); have ra := rng32 (1 + (x &&& 1073741823))
  rw [show (1 : Int32).toInt = 1 from by decide] at a
  generalize 1 + (x &&& 1073741823) = d at *
  have b := c_iadd d 1; have rb := rng32 (d + 1)
  rw [show (1 : Int32).toInt = 1 from by decide] at b
  have c := c_iadd (d + 1) (y &&& 268435455); have rc := rng32 (d + 1 + (y &&& 268435455))
  rw [h2] at c rc
  have f := c_iadd d2 k; have rf := rng32 (d2 + k)
  intro z
  have := congrArg Int32.toInt z
  obtain ⟨k0, k1⟩ := hk
  omega
/-- all apart -/
def own_far : List Nat → Prop
  | [] => True
  | a :: L => (∀ b ∈ L, a < b ∨ b < a) ∧ own_far L
theorem own_farO : ∀ {L : List Nat} (_ : own_far L) {i j : Nat} {a b : Nat} (_ : L[i]? = some a) (_ : L[j]? = some b) (_ : ¬ i = j), a < b ∨ b < a
  | [], _, i, j, a, b, hi, _, _ => by simp at hi
  | x :: L, h, 0, 0, a, b, _, _, hij => absurd rfl hij
  | x :: L, h, 0, j + 1, a, b, hi, hj, _ => by
    simp at hi hj; subst hi; exact h.1 b (List.mem_of_getElem? hj)
  | x :: L, h, i + 1, 0, a, b, hi, hj, _ => by
    simp at hi hj; subst hj; exact (h.1 a (List.mem_of_getElem? hi)).symm
  | x :: L, h, i + 1, j + 1, a, b, hi, hj, hij => own_farO (L := L) h.2 (i := i) (j := j) (by simpa using hi) (by simpa using hj) (fun q => hij (by rw [q]))
theorem own_farN {L : List Nat} (h : own_far L) {i j : Nat} {a b : Nat} (hi : L[i]? = some a) (hj : L[j]? = some b) (hij : ¬ i = j) : a ≠ b := fun q => by
  have := own_farO h hi hj hij; omega
theorem d_jdk_29_69_0 : decode jdk_29_method_69_code 0 = .ok (.iload_n 0, 1) := by decide +kernel
theorem d_jdk_29_69_1 : decode jdk_29_method_69_code 1 = .ok (.iload_n 1, 1) := by decide +kernel
theorem d_jdk_29_69_2 : decode jdk_29_method_69_code 2 = .ok (.if_icmp .gt 7, 3) := by decide +kernel
theorem d_jdk_29_69_5 : decode jdk_29_method_69_code 5 = .ok (.iload_n 0, 1) := by decide +kernel
theorem d_jdk_29_69_6 : decode jdk_29_method_69_code 6 = .ok (.goto 4, 3) := by decide +kernel
theorem d_jdk_29_69_9 : decode jdk_29_method_69_code 9 = .ok (.iload_n 1, 1) := by decide +kernel
theorem d_jdk_29_69_10 : decode jdk_29_method_69_code 10 = .ok (.ireturn, 1) := by decide +kernel
theorem d_jdk_41_12_0 : decode jdk_41_method_12_code 0 = .ok (.iload_n 0, 1) := by decide +kernel
theorem d_jdk_41_12_1 : decode jdk_41_method_12_code 1 = .ok (.ifCond .lt 13, 3) := by decide +kernel
theorem d_jdk_41_12_4 : decode jdk_41_method_12_code 4 = .ok (.iload_n 0, 1) := by decide +kernel
theorem d_jdk_41_12_5 : decode jdk_41_method_12_code 5 = .ok (.iload_n 1, 1) := by decide +kernel
theorem d_jdk_41_12_6 : decode jdk_41_method_12_code 6 = .ok (.if_icmp .gt 8, 3) := by decide +kernel
theorem d_jdk_41_12_9 : decode jdk_41_method_12_code 9 = .ok (.iload_n 1, 1) := by decide +kernel
theorem d_jdk_41_12_10 : decode jdk_41_method_12_code 10 = .ok (.iload_n 2, 1) := by decide +kernel
theorem d_jdk_41_12_11 : decode jdk_41_method_12_code 11 = .ok (.if_icmp .le 11, 3) := by decide +kernel
theorem d_jdk_41_12_22 : decode jdk_41_method_12_code 22 = .ok (.iload_n 0, 1) := by decide +kernel
theorem d_jdk_41_12_23 : decode jdk_41_method_12_code 23 = .ok (.ireturn, 1) := by decide +kernel
theorem d_jdk_42_147_0 : decode jdk_42_method_147_code 0 = .ok (.aload_n 0, 1) := by decide +kernel
theorem d_jdk_42_147_1 : decode jdk_42_method_147_code 1 = .ok (.invokevirtual 335, 3) := by decide +kernel
theorem d_jdk_42_147_4 : decode jdk_42_method_147_code 4 = .ok (.iload_n 3, 1) := by decide +kernel
theorem d_jdk_42_147_5 : decode jdk_42_method_147_code 5 = .ok (.if_icmp .ne 23, 3) := by decide +kernel
theorem d_jdk_42_147_8 : decode jdk_42_method_147_code 8 = .ok (.aload_n 0, 1) := by decide +kernel
theorem d_jdk_42_147_9 : decode jdk_42_method_147_code 9 = .ok (.getfield 9, 3) := by decide +kernel
theorem d_jdk_42_147_12 : decode jdk_42_method_147_code 12 = .ok (.iconst 0, 1) := by decide +kernel
theorem d_jdk_42_147_13 : decode jdk_42_method_147_code 13 = .ok (.aload_n 1, 1) := by decide +kernel
theorem d_jdk_42_147_14 : decode jdk_42_method_147_code 14 = .ok (.iload_n 2, 1) := by decide +kernel
theorem d_jdk_42_147_15 : decode jdk_42_method_147_code 15 = .ok (.iload_n 3, 1) := by decide +kernel
theorem d_jdk_42_147_16 : decode jdk_42_method_147_code 16 = .ok (.ishl, 1) := by decide +kernel
theorem d_jdk_42_147_17 : decode jdk_42_method_147_code 17 = .ok (.aload_n 0, 1) := by decide +kernel
theorem d_jdk_42_147_18 : decode jdk_42_method_147_code 18 = .ok (.getfield 9, 3) := by decide +kernel
theorem d_jdk_42_147_21 : decode jdk_42_method_147_code 21 = .ok (.arraylength, 1) := by decide +kernel
theorem d_jdk_42_147_22 : decode jdk_42_method_147_code 22 = .ok (.invokestatic 212, 3) := by decide +kernel
theorem d_jdk_42_147_25 : decode jdk_42_method_147_code 25 = .ok (.goto 18, 3) := by decide +kernel
theorem d_jdk_42_147_43 : decode jdk_42_method_147_code 43 = .ok (.return_, 1) := by decide +kernel
theorem d_jdk_42_149_0 : decode jdk_42_method_149_code 0 = .ok (.aload_n 0, 1) := by decide +kernel
theorem d_jdk_42_149_1 : decode jdk_42_method_149_code 1 = .ok (.invokespecial 1, 3) := by decide +kernel
theorem d_jdk_42_149_4 : decode jdk_42_method_149_code 4 = .ok (.iload_n 3, 1) := by decide +kernel
theorem d_jdk_42_149_5 : decode jdk_42_method_149_code 5 = .ok (.ifCond .ne 22, 3) := by decide +kernel
theorem d_jdk_42_149_8 : decode jdk_42_method_149_code 8 = .ok (.aload_n 0, 1) := by decide +kernel
theorem d_jdk_42_149_9 : decode jdk_42_method_149_code 9 = .ok (.ldc 7, 2) := by decide +kernel
theorem d_jdk_42_149_11 : decode jdk_42_method_149_code 11 = .ok (.getfield 9, 3) := by decide +kernel
theorem d_jdk_42_149_14 : decode jdk_42_method_149_code 14 = .ok (.putfield 9, 3) := by decide +kernel
theorem d_jdk_42_149_17 : decode jdk_42_method_149_code 17 = .ok (.aload_n 0, 1) := by decide +kernel
theorem d_jdk_42_149_18 : decode jdk_42_method_149_code 18 = .ok (.ldc 7, 2) := by decide +kernel
theorem d_jdk_42_149_20 : decode jdk_42_method_149_code 20 = .ok (.getfield 15, 3) := by decide +kernel
theorem d_jdk_42_149_23 : decode jdk_42_method_149_code 23 = .ok (.putfield 15, 3) := by decide +kernel
theorem d_jdk_42_149_26 : decode jdk_42_method_149_code 26 = .ok (.return_, 1) := by decide +kernel
theorem d_jdk_42_149_27 : decode jdk_42_method_149_code 27 = .ok (.getstatic 38, 3) := by decide +kernel
theorem d_jdk_42_149_30 : decode jdk_42_method_149_code 30 = .ok (.ifCond .eq 28, 3) := by decide +kernel
theorem d_jdk_42_149_33 : decode jdk_42_method_149_code 33 = .ok (.aload_n 1, 1) := by decide +kernel
theorem d_jdk_42_149_34 : decode jdk_42_method_149_code 34 = .ok (.iload_n 2, 1) := by decide +kernel
theorem d_jdk_42_149_35 : decode jdk_42_method_149_code 35 = .ok (.iload_n 3, 1) := by decide +kernel
theorem d_jdk_42_149_36 : decode jdk_42_method_149_code 36 = .ok (.invokestatic 177, 3) := by decide +kernel
theorem d_jdk_42_149_39 : decode jdk_42_method_149_code 39 = .ok (.astore 5, 2) := by decide +kernel
theorem d_jdk_42_149_41 : decode jdk_42_method_149_code 41 = .ok (.aload_n 0, 1) := by decide +kernel
theorem d_jdk_42_149_42 : decode jdk_42_method_149_code 42 = .ok (.aload 5, 2) := by decide +kernel
theorem d_jdk_42_149_44 : decode jdk_42_method_149_code 44 = .ok (.iload_n 3, 1) := by decide +kernel
theorem d_jdk_42_149_45 : decode jdk_42_method_149_code 45 = .ok (.invokestatic 47, 3) := by decide +kernel
theorem d_jdk_42_149_48 : decode jdk_42_method_149_code 48 = .ok (.putfield 15, 3) := by decide +kernel
theorem d_jdk_42_149_51 : decode jdk_42_method_149_code 51 = .ok (.aload_n 0, 1) := by decide +kernel
theorem d_jdk_42_149_52 : decode jdk_42_method_149_code 52 = .ok (.aload 5, 2) := by decide +kernel
theorem d_jdk_42_149_54 : decode jdk_42_method_149_code 54 = .ok (.putfield 9, 3) := by decide +kernel
theorem d_jdk_42_149_57 : decode jdk_42_method_149_code 57 = .ok (.return_, 1) := by decide +kernel
theorem d_jdk_42_151_0 : decode jdk_42_method_151_code 0 = .ok (.aload_n 0, 1) := by decide +kernel
theorem d_jdk_42_151_1 : decode jdk_42_method_151_code 1 = .ok (.invokespecial 1, 3) := by decide +kernel
theorem d_jdk_42_151_4 : decode jdk_42_method_151_code 4 = .ok (.aload_n 0, 1) := by decide +kernel
theorem d_jdk_42_151_5 : decode jdk_42_method_151_code 5 = .ok (.aload_n 1, 1) := by decide +kernel
theorem d_jdk_42_151_6 : decode jdk_42_method_151_code 6 = .ok (.putfield 9, 3) := by decide +kernel
theorem d_jdk_42_151_9 : decode jdk_42_method_151_code 9 = .ok (.aload_n 0, 1) := by decide +kernel
theorem d_jdk_42_151_10 : decode jdk_42_method_151_code 10 = .ok (.iload_n 2, 1) := by decide +kernel
theorem d_jdk_42_151_11 : decode jdk_42_method_151_code 11 = .ok (.putfield 15, 3) := by decide +kernel
theorem d_jdk_42_151_14 : decode jdk_42_method_151_code 14 = .ok (.return_, 1) := by decide +kernel
theorem d_jdk_42_152_0 : decode jdk_42_method_152_code 0 = .ok (.getstatic 38, 3) := by decide +kernel
theorem d_jdk_42_152_3 : decode jdk_42_method_152_code 3 = .ok (.ifCond .eq 10, 3) := by decide +kernel
theorem d_jdk_42_152_6 : decode jdk_42_method_152_code 6 = .ok (.aload_n 0, 1) := by decide +kernel
theorem d_jdk_42_152_7 : decode jdk_42_method_152_code 7 = .ok (.getfield 15, 3) := by decide +kernel
theorem d_jdk_42_152_10 : decode jdk_42_method_152_code 10 = .ok (.goto 4, 3) := by decide +kernel
theorem d_jdk_42_152_14 : decode jdk_42_method_152_code 14 = .ok (.ireturn, 1) := by decide +kernel
theorem d_jdk_42_3_0 : decode jdk_42_method_3_code 0 = .ok (.aload_n 0, 1) := by decide +kernel
theorem d_jdk_42_3_1 : decode jdk_42_method_3_code 1 = .ok (.aload_n 1, 1) := by decide +kernel
theorem d_jdk_42_3_2 : decode jdk_42_method_3_code 2 = .ok (.iconst 0, 1) := by decide +kernel
theorem d_jdk_42_3_3 : decode jdk_42_method_3_code 3 = .ok (.aload_n 1, 1) := by decide +kernel
theorem d_jdk_42_3_4 : decode jdk_42_method_3_code 4 = .ok (.arraylength, 1) := by decide +kernel
theorem d_jdk_42_3_5 : decode jdk_42_method_3_code 5 = .ok (.aconst_null, 1) := by decide +kernel
theorem d_jdk_42_3_6 : decode jdk_42_method_3_code 6 = .ok (.invokespecial 27, 3) := by decide +kernel
theorem d_jdk_42_3_9 : decode jdk_42_method_3_code 9 = .ok (.return_, 1) := by decide +kernel
theorem d_jdk_42_54_0 : decode jdk_42_method_54_code 0 = .ok (.aload_n 0, 1) := by decide +kernel
theorem d_jdk_42_54_1 : decode jdk_42_method_54_code 1 = .ok (.getfield 9, 3) := by decide +kernel
theorem d_jdk_42_54_4 : decode jdk_42_method_54_code 4 = .ok (.arraylength, 1) := by decide +kernel
theorem d_jdk_42_54_5 : decode jdk_42_method_54_code 5 = .ok (.aload_n 0, 1) := by decide +kernel
theorem d_jdk_42_54_6 : decode jdk_42_method_54_code 6 = .ok (.invokevirtual 335, 3) := by decide +kernel
theorem d_jdk_42_54_9 : decode jdk_42_method_54_code 9 = .ok (.ishr, 1) := by decide +kernel
theorem d_jdk_42_54_10 : decode jdk_42_method_54_code 10 = .ok (.ireturn, 1) := by decide +kernel
theorem d_jdk_42_66_0 : decode jdk_42_method_66_code 0 = .ok (.aload_n 0, 1) := by decide +kernel
theorem d_jdk_42_66_1 : decode jdk_42_method_66_code 1 = .ok (.aload_n 1, 1) := by decide +kernel
theorem d_jdk_42_66_2 : decode jdk_42_method_66_code 2 = .ok (.if_acmp .ne 5, 3) := by decide +kernel
theorem d_jdk_42_66_5 : decode jdk_42_method_66_code 5 = .ok (.iconst 1, 1) := by decide +kernel
theorem d_jdk_42_66_6 : decode jdk_42_method_66_code 6 = .ok (.ireturn, 1) := by decide +kernel
theorem d_jdk_42_66_7 : decode jdk_42_method_66_code 7 = .ok (.aload_n 1, 1) := by decide +kernel
theorem d_jdk_42_66_8 : decode jdk_42_method_66_code 8 = .ok (.instanceof 10, 3) := by decide +kernel
theorem d_jdk_42_66_11 : decode jdk_42_method_66_code 11 = .ok (.ifCond .eq 43, 3) := by decide +kernel
theorem d_jdk_42_66_14 : decode jdk_42_method_66_code 14 = .ok (.aload_n 1, 1) := by decide +kernel
theorem d_jdk_42_66_15 : decode jdk_42_method_66_code 15 = .ok (.checkcast 10, 3) := by decide +kernel
theorem d_jdk_42_66_18 : decode jdk_42_method_66_code 18 = .ok (.astore_n 2, 1) := by decide +kernel
theorem d_jdk_42_66_19 : decode jdk_42_method_66_code 19 = .ok (.getstatic 38, 3) := by decide +kernel
theorem d_jdk_42_66_22 : decode jdk_42_method_66_code 22 = .ok (.ifCond .eq 14, 3) := by decide +kernel
theorem d_jdk_42_66_25 : decode jdk_42_method_66_code 25 = .ok (.aload_n 0, 1) := by decide +kernel
theorem d_jdk_42_66_26 : decode jdk_42_method_66_code 26 = .ok (.getfield 15, 3) := by decide +kernel
theorem d_jdk_42_66_29 : decode jdk_42_method_66_code 29 = .ok (.aload_n 2, 1) := by decide +kernel
theorem d_jdk_42_66_30 : decode jdk_42_method_66_code 30 = .ok (.getfield 15, 3) := by decide +kernel
theorem d_jdk_42_66_33 : decode jdk_42_method_66_code 33 = .ok (.if_icmp .ne 21, 3) := by decide +kernel
theorem d_jdk_42_66_36 : decode jdk_42_method_66_code 36 = .ok (.aload_n 0, 1) := by decide +kernel
theorem d_jdk_42_66_37 : decode jdk_42_method_66_code 37 = .ok (.getfield 9, 3) := by decide +kernel
theorem d_jdk_42_66_40 : decode jdk_42_method_66_code 40 = .ok (.aload_n 2, 1) := by decide +kernel
theorem d_jdk_42_66_41 : decode jdk_42_method_66_code 41 = .ok (.getfield 9, 3) := by decide +kernel
theorem d_jdk_42_66_44 : decode jdk_42_method_66_code 44 = .ok (.invokestatic 541, 3) := by decide +kernel
theorem d_jdk_42_66_47 : decode jdk_42_method_66_code 47 = .ok (.ifCond .eq 7, 3) := by decide +kernel
theorem d_jdk_42_66_50 : decode jdk_42_method_66_code 50 = .ok (.iconst 1, 1) := by decide +kernel
theorem d_jdk_42_66_51 : decode jdk_42_method_66_code 51 = .ok (.goto 4, 3) := by decide +kernel
theorem d_jdk_42_66_54 : decode jdk_42_method_66_code 54 = .ok (.iconst 0, 1) := by decide +kernel
theorem d_jdk_42_66_55 : decode jdk_42_method_66_code 55 = .ok (.ireturn, 1) := by decide +kernel
theorem d_jdk_43_13_0 : decode jdk_43_method_13_code 0 = .ok (.aload_n 0, 1) := by decide +kernel
theorem d_jdk_43_13_1 : decode jdk_43_method_13_code 1 = .ok (.arraylength, 1) := by decide +kernel
theorem d_jdk_43_13_2 : decode jdk_43_method_13_code 2 = .ok (.aload_n 1, 1) := by decide +kernel
theorem d_jdk_43_13_3 : decode jdk_43_method_13_code 3 = .ok (.arraylength, 1) := by decide +kernel
theorem d_jdk_43_13_4 : decode jdk_43_method_13_code 4 = .ok (.if_icmp .ne 30, 3) := by decide +kernel
theorem d_jdk_43_13_7 : decode jdk_43_method_13_code 7 = .ok (.iconst 0, 1) := by decide +kernel
theorem d_jdk_43_13_8 : decode jdk_43_method_13_code 8 = .ok (.istore_n 2, 1) := by decide +kernel
theorem d_jdk_43_13_9 : decode jdk_43_method_13_code 9 = .ok (.iload_n 2, 1) := by decide +kernel
theorem d_jdk_43_13_10 : decode jdk_43_method_13_code 10 = .ok (.aload_n 0, 1) := by decide +kernel
theorem d_jdk_43_13_11 : decode jdk_43_method_13_code 11 = .ok (.arraylength, 1) := by decide +kernel
theorem d_jdk_43_13_12 : decode jdk_43_method_13_code 12 = .ok (.if_icmp .ge 20, 3) := by decide +kernel
theorem d_jdk_43_13_15 : decode jdk_43_method_13_code 15 = .ok (.aload_n 0, 1) := by decide +kernel
theorem d_jdk_43_13_16 : decode jdk_43_method_13_code 16 = .ok (.iload_n 2, 1) := by decide +kernel
theorem d_jdk_43_13_17 : decode jdk_43_method_13_code 17 = .ok (.baload, 1) := by decide +kernel
theorem d_jdk_43_13_18 : decode jdk_43_method_13_code 18 = .ok (.aload_n 1, 1) := by decide +kernel
theorem d_jdk_43_13_19 : decode jdk_43_method_13_code 19 = .ok (.iload_n 2, 1) := by decide +kernel
theorem d_jdk_43_13_20 : decode jdk_43_method_13_code 20 = .ok (.baload, 1) := by decide +kernel
theorem d_jdk_43_13_21 : decode jdk_43_method_13_code 21 = .ok (.if_icmp .eq 5, 3) := by decide +kernel
theorem d_jdk_43_13_24 : decode jdk_43_method_13_code 24 = .ok (.iconst 0, 1) := by decide +kernel
theorem d_jdk_43_13_25 : decode jdk_43_method_13_code 25 = .ok (.ireturn, 1) := by decide +kernel
theorem d_jdk_43_13_26 : decode jdk_43_method_13_code 26 = .ok (.iinc 2 1, 3) := by decide +kernel
theorem d_jdk_43_13_29 : decode jdk_43_method_13_code 29 = .ok (.goto (-20), 3) := by decide +kernel
theorem d_jdk_43_13_32 : decode jdk_43_method_13_code 32 = .ok (.iconst 1, 1) := by decide +kernel
theorem d_jdk_43_13_33 : decode jdk_43_method_13_code 33 = .ok (.ireturn, 1) := by decide +kernel
theorem d_jdk_43_13_34 : decode jdk_43_method_13_code 34 = .ok (.iconst 0, 1) := by decide +kernel
theorem d_jdk_43_13_35 : decode jdk_43_method_13_code 35 = .ok (.ireturn, 1) := by decide +kernel
theorem d_jdk_43_47_0 : decode jdk_43_method_47_code 0 = .ok (.iload_n 2, 1) := by decide +kernel
theorem d_jdk_43_47_1 : decode jdk_43_method_47_code 1 = .ok (.ifCond .ne 6, 3) := by decide +kernel
theorem d_jdk_43_47_4 : decode jdk_43_method_47_code 4 = .ok (.ldc 151, 2) := by decide +kernel
theorem d_jdk_43_47_6 : decode jdk_43_method_47_code 6 = .ok (.areturn, 1) := by decide +kernel
theorem d_jdk_43_47_7 : decode jdk_43_method_47_code 7 = .ok (.new 1, 3) := by decide +kernel
theorem d_jdk_43_47_10 : decode jdk_43_method_47_code 10 = .ok (.dup, 1) := by decide +kernel
theorem d_jdk_43_47_11 : decode jdk_43_method_47_code 11 = .ok (.aload_n 0, 1) := by decide +kernel
theorem d_jdk_43_47_12 : decode jdk_43_method_47_code 12 = .ok (.iload_n 1, 1) := by decide +kernel
theorem d_jdk_43_47_13 : decode jdk_43_method_47_code 13 = .ok (.iload_n 1, 1) := by decide +kernel
theorem d_jdk_43_47_14 : decode jdk_43_method_47_code 14 = .ok (.iload_n 2, 1) := by decide +kernel
theorem d_jdk_43_47_15 : decode jdk_43_method_47_code 15 = .ok (.iadd, 1) := by decide +kernel
theorem d_jdk_43_47_16 : decode jdk_43_method_47_code 16 = .ok (.invokestatic 232, 3) := by decide +kernel
theorem d_jdk_43_47_19 : decode jdk_43_method_47_code 19 = .ok (.iconst 0, 1) := by decide +kernel
theorem d_jdk_43_47_20 : decode jdk_43_method_47_code 20 = .ok (.invokespecial 112, 3) := by decide +kernel
theorem d_jdk_43_47_23 : decode jdk_43_method_47_code 23 = .ok (.areturn, 1) := by decide +kernel
theorem d_jdk_52_15_0 : decode jdk_52_method_15_code 0 = .ok (.iload_n 1, 1) := by decide +kernel
theorem d_jdk_52_15_1 : decode jdk_52_method_15_code 1 = .ok (.aload_n 0, 1) := by decide +kernel
theorem d_jdk_52_15_2 : decode jdk_52_method_15_code 2 = .ok (.arraylength, 1) := by decide +kernel
theorem d_jdk_52_15_3 : decode jdk_52_method_15_code 3 = .ok (.isub, 1) := by decide +kernel
theorem d_jdk_52_15_4 : decode jdk_52_method_15_code 4 = .ok (.bipush 31, 2) := by decide +kernel
theorem d_jdk_52_15_6 : decode jdk_52_method_15_code 6 = .ok (.iushr, 1) := by decide +kernel
theorem d_jdk_52_15_7 : decode jdk_52_method_15_code 7 = .ok (.i2b, 1) := by decide +kernel
theorem d_jdk_52_15_8 : decode jdk_52_method_15_code 8 = .ok (.ireturn, 1) := by decide +kernel
theorem d_jdk_52_16_0 : decode jdk_52_method_16_code 0 = .ok (.iload_n 2, 1) := by decide +kernel
theorem d_jdk_52_16_1 : decode jdk_52_method_16_code 1 = .ok (.newarray .byte, 2) := by decide +kernel
theorem d_jdk_52_16_3 : decode jdk_52_method_16_code 3 = .ok (.astore_n 3, 1) := by decide +kernel
theorem d_jdk_52_16_4 : decode jdk_52_method_16_code 4 = .ok (.aload_n 0, 1) := by decide +kernel
theorem d_jdk_52_16_5 : decode jdk_52_method_16_code 5 = .ok (.iload_n 1, 1) := by decide +kernel
theorem d_jdk_52_16_6 : decode jdk_52_method_16_code 6 = .ok (.aload_n 3, 1) := by decide +kernel
theorem d_jdk_52_16_7 : decode jdk_52_method_16_code 7 = .ok (.iconst 0, 1) := by decide +kernel
theorem d_jdk_52_16_8 : decode jdk_52_method_16_code 8 = .ok (.iload_n 2, 1) := by decide +kernel
theorem d_jdk_52_16_9 : decode jdk_52_method_16_code 9 = .ok (.invokestatic 115, 3) := by decide +kernel
theorem d_jdk_52_16_12 : decode jdk_52_method_16_code 12 = .ok (.istore 4, 2) := by decide +kernel
theorem d_jdk_52_16_14 : decode jdk_52_method_16_code 14 = .ok (.iload 4, 2) := by decide +kernel
theorem d_jdk_52_16_16 : decode jdk_52_method_16_code 16 = .ok (.iload_n 2, 1) := by decide +kernel
theorem d_jdk_52_16_17 : decode jdk_52_method_16_code 17 = .ok (.if_icmp .eq 40, 3) := by decide +kernel
theorem d_jdk_52_16_57 : decode jdk_52_method_16_code 57 = .ok (.aload_n 3, 1) := by decide +kernel
theorem d_jdk_52_16_58 : decode jdk_52_method_16_code 58 = .ok (.areturn, 1) := by decide +kernel
theorem d_jdk_52_21_0 : decode jdk_52_method_21_code 0 = .ok (.iconst 0, 1) := by decide +kernel
theorem d_jdk_52_21_1 : decode jdk_52_method_21_code 1 = .ok (.istore 5, 2) := by decide +kernel
theorem d_jdk_52_21_3 : decode jdk_52_method_21_code 3 = .ok (.iload 5, 2) := by decide +kernel
theorem d_jdk_52_21_5 : decode jdk_52_method_21_code 5 = .ok (.iload 4, 2) := by decide +kernel
theorem d_jdk_52_21_7 : decode jdk_52_method_21_code 7 = .ok (.if_icmp .ge 37, 3) := by decide +kernel
theorem d_jdk_52_21_10 : decode jdk_52_method_21_code 10 = .ok (.aload_n 0, 1) := by decide +kernel
theorem d_jdk_52_21_11 : decode jdk_52_method_21_code 11 = .ok (.iload_n 1, 1) := by decide +kernel
theorem d_jdk_52_21_12 : decode jdk_52_method_21_code 12 = .ok (.caload, 1) := by decide +kernel
theorem d_jdk_52_21_13 : decode jdk_52_method_21_code 13 = .ok (.istore 6, 2) := by decide +kernel
theorem d_jdk_52_21_15 : decode jdk_52_method_21_code 15 = .ok (.iload 6, 2) := by decide +kernel
theorem d_jdk_52_21_17 : decode jdk_52_method_21_code 17 = .ok (.sipush 255, 3) := by decide +kernel
theorem d_jdk_52_21_20 : decode jdk_52_method_21_code 20 = .ok (.if_icmp .le 6, 3) := by decide +kernel
theorem d_jdk_52_21_23 : decode jdk_52_method_21_code 23 = .ok (.iload 5, 2) := by decide +kernel
theorem d_jdk_52_21_25 : decode jdk_52_method_21_code 25 = .ok (.ireturn, 1) := by decide +kernel
theorem d_jdk_52_21_26 : decode jdk_52_method_21_code 26 = .ok (.aload_n 2, 1) := by decide +kernel
theorem d_jdk_52_21_27 : decode jdk_52_method_21_code 27 = .ok (.iload_n 3, 1) := by decide +kernel
theorem d_jdk_52_21_28 : decode jdk_52_method_21_code 28 = .ok (.iload 6, 2) := by decide +kernel
theorem d_jdk_52_21_30 : decode jdk_52_method_21_code 30 = .ok (.i2b, 1) := by decide +kernel
theorem d_jdk_52_21_31 : decode jdk_52_method_21_code 31 = .ok (.bastore, 1) := by decide +kernel
theorem d_jdk_52_21_32 : decode jdk_52_method_21_code 32 = .ok (.iinc 1 1, 3) := by decide +kernel
theorem d_jdk_52_21_35 : decode jdk_52_method_21_code 35 = .ok (.iinc 3 1, 3) := by decide +kernel
theorem d_jdk_52_21_38 : decode jdk_52_method_21_code 38 = .ok (.iinc 5 1, 3) := by decide +kernel
theorem d_jdk_52_21_41 : decode jdk_52_method_21_code 41 = .ok (.goto (-38), 3) := by decide +kernel
theorem d_jdk_52_21_44 : decode jdk_52_method_21_code 44 = .ok (.iload 4, 2) := by decide +kernel
theorem d_jdk_52_21_46 : decode jdk_52_method_21_code 46 = .ok (.ireturn, 1) := by decide +kernel
theorem d_jdk_65_131_0 : decode jdk_65_method_131_code 0 = .ok (.iload_n 1, 1) := by decide +kernel
theorem d_jdk_65_131_1 : decode jdk_65_method_131_code 1 = .ok (.iload_n 0, 1) := by decide +kernel
theorem d_jdk_65_131_2 : decode jdk_65_method_131_code 2 = .ok (.if_icmp .ge 35, 3) := by decide +kernel
theorem d_jdk_65_131_37 : decode jdk_65_method_131_code 37 = .ok (.return_, 1) := by decide +kernel
theorem d_jdk_65_132_0 : decode jdk_65_method_132_code 0 = .ok (.iload_n 1, 1) := by decide +kernel
theorem d_jdk_65_132_1 : decode jdk_65_method_132_code 1 = .ok (.ifCond .ne 9, 3) := by decide +kernel
theorem d_jdk_65_132_4 : decode jdk_65_method_132_code 4 = .ok (.iload_n 2, 1) := by decide +kernel
theorem d_jdk_65_132_5 : decode jdk_65_method_132_code 5 = .ok (.aload_n 0, 1) := by decide +kernel
theorem d_jdk_65_132_6 : decode jdk_65_method_132_code 6 = .ok (.arraylength, 1) := by decide +kernel
theorem d_jdk_65_132_7 : decode jdk_65_method_132_code 7 = .ok (.if_icmp .eq 10, 3) := by decide +kernel
theorem d_jdk_65_132_10 : decode jdk_65_method_132_code 10 = .ok (.aload_n 0, 1) := by decide +kernel
theorem d_jdk_65_132_11 : decode jdk_65_method_132_code 11 = .ok (.iload_n 1, 1) := by decide +kernel
theorem d_jdk_65_132_12 : decode jdk_65_method_132_code 12 = .ok (.iload_n 2, 1) := by decide +kernel
theorem d_jdk_65_132_13 : decode jdk_65_method_132_code 13 = .ok (.invokestatic 339, 3) := by decide +kernel
theorem d_jdk_65_132_16 : decode jdk_65_method_132_code 16 = .ok (.areturn, 1) := by decide +kernel
theorem d_jdk_65_133_0 : decode jdk_65_method_133_code 0 = .ok (.iload_n 1, 1) := by decide +kernel
theorem d_jdk_65_133_1 : decode jdk_65_method_133_code 1 = .ok (.iload_n 2, 1) := by decide +kernel
theorem d_jdk_65_133_2 : decode jdk_65_method_133_code 2 = .ok (.invokestatic 343, 3) := by decide +kernel
theorem d_jdk_65_133_5 : decode jdk_65_method_133_code 5 = .ok (.iload_n 2, 1) := by decide +kernel
theorem d_jdk_65_133_6 : decode jdk_65_method_133_code 6 = .ok (.iload_n 1, 1) := by decide +kernel
theorem d_jdk_65_133_7 : decode jdk_65_method_133_code 7 = .ok (.isub, 1) := by decide +kernel
theorem d_jdk_65_133_8 : decode jdk_65_method_133_code 8 = .ok (.istore_n 3, 1) := by decide +kernel
theorem d_jdk_65_133_9 : decode jdk_65_method_133_code 9 = .ok (.iload_n 3, 1) := by decide +kernel
theorem d_jdk_65_133_10 : decode jdk_65_method_133_code 10 = .ok (.newarray .byte, 2) := by decide +kernel
theorem d_jdk_65_133_12 : decode jdk_65_method_133_code 12 = .ok (.astore 4, 2) := by decide +kernel
theorem d_jdk_65_133_14 : decode jdk_65_method_133_code 14 = .ok (.aload_n 0, 1) := by decide +kernel
theorem d_jdk_65_133_15 : decode jdk_65_method_133_code 15 = .ok (.iload_n 1, 1) := by decide +kernel
theorem d_jdk_65_133_16 : decode jdk_65_method_133_code 16 = .ok (.aload 4, 2) := by decide +kernel
theorem d_jdk_65_133_18 : decode jdk_65_method_133_code 18 = .ok (.iconst 0, 1) := by decide +kernel
theorem d_jdk_65_133_19 : decode jdk_65_method_133_code 19 = .ok (.aload_n 0, 1) := by decide +kernel
theorem d_jdk_65_133_20 : decode jdk_65_method_133_code 20 = .ok (.arraylength, 1) := by decide +kernel
theorem d_jdk_65_133_21 : decode jdk_65_method_133_code 21 = .ok (.iload_n 1, 1) := by decide +kernel
theorem d_jdk_65_133_22 : decode jdk_65_method_133_code 22 = .ok (.isub, 1) := by decide +kernel
theorem d_jdk_65_133_23 : decode jdk_65_method_133_code 23 = .ok (.iload_n 3, 1) := by decide +kernel
theorem d_jdk_65_133_24 : decode jdk_65_method_133_code 24 = .ok (.invokestatic 304, 3) := by decide +kernel
theorem d_jdk_65_133_27 : decode jdk_65_method_133_code 27 = .ok (.invokestatic 150, 3) := by decide +kernel
theorem d_jdk_65_133_30 : decode jdk_65_method_133_code 30 = .ok (.aload 4, 2) := by decide +kernel
theorem d_jdk_65_133_32 : decode jdk_65_method_133_code 32 = .ok (.areturn, 1) := by decide +kernel
theorem d_jdk_67_1_0 : decode jdk_67_method_1_code 0 = .ok (.aload_n 0, 1) := by decide +kernel
theorem d_jdk_67_1_1 : decode jdk_67_method_1_code 1 = .ok (.bipush 16, 2) := by decide +kernel
theorem d_jdk_67_1_3 : decode jdk_67_method_1_code 3 = .ok (.invokespecial 1, 3) := by decide +kernel
theorem d_jdk_67_1_6 : decode jdk_67_method_1_code 6 = .ok (.return_, 1) := by decide +kernel
theorem d_jdk_67_62_0 : decode jdk_67_method_62_code 0 = .ok (.aload_n 0, 1) := by decide +kernel
theorem d_jdk_67_62_1 : decode jdk_67_method_62_code 1 = .ok (.iload_n 1, 1) := by decide +kernel
theorem d_jdk_67_62_2 : decode jdk_67_method_62_code 2 = .ok (.iload_n 2, 1) := by decide +kernel
theorem d_jdk_67_62_3 : decode jdk_67_method_62_code 3 = .ok (.invokespecial 252, 3) := by decide +kernel
theorem d_jdk_67_62_6 : decode jdk_67_method_62_code 6 = .ok (.areturn, 1) := by decide +kernel
theorem d_jdk_67_64_0 : decode jdk_67_method_64_code 0 = .ok (.aload_n 0, 1) := by decide +kernel
theorem d_jdk_67_64_1 : decode jdk_67_method_64_code 1 = .ok (.iload_n 1, 1) := by decide +kernel
theorem d_jdk_67_64_2 : decode jdk_67_method_64_code 2 = .ok (.invokespecial 260, 3) := by decide +kernel
theorem d_jdk_67_64_5 : decode jdk_67_method_64_code 5 = .ok (.areturn, 1) := by decide +kernel
theorem d_jdk_67_7_0 : decode jdk_67_method_7_code 0 = .ok (.aload_n 0, 1) := by decide +kernel
theorem d_jdk_67_7_1 : decode jdk_67_method_7_code 1 = .ok (.aload_n 1, 1) := by decide +kernel
theorem d_jdk_67_7_2 : decode jdk_67_method_7_code 2 = .ok (.invokespecial 29, 3) := by decide +kernel
theorem d_jdk_67_7_5 : decode jdk_67_method_7_code 5 = .ok (.pop, 1) := by decide +kernel
theorem d_jdk_67_7_6 : decode jdk_67_method_7_code 6 = .ok (.aload_n 0, 1) := by decide +kernel
theorem d_jdk_67_7_7 : decode jdk_67_method_7_code 7 = .ok (.areturn, 1) := by decide +kernel
theorem d_jdk_67_89_0 : decode jdk_67_method_89_code 0 = .ok (.aload_n 0, 1) := by decide +kernel
theorem d_jdk_67_89_1 : decode jdk_67_method_89_code 1 = .ok (.iload_n 1, 1) := by decide +kernel
theorem d_jdk_67_89_2 : decode jdk_67_method_89_code 2 = .ok (.invokespecial 333, 3) := by decide +kernel
theorem d_jdk_67_89_5 : decode jdk_67_method_89_code 5 = .ok (.return_, 1) := by decide +kernel
theorem d_jdk_67_93_0 : decode jdk_67_method_93_code 0 = .ok (.aload_n 0, 1) := by decide +kernel
theorem d_jdk_67_93_1 : decode jdk_67_method_93_code 1 = .ok (.invokespecial 343, 3) := by decide +kernel
theorem d_jdk_67_93_4 : decode jdk_67_method_93_code 4 = .ok (.ireturn, 1) := by decide +kernel
theorem d_jdk_68_13_0 : decode jdk_68_method_13_code 0 = .ok (.iload_n 1, 1) := by decide +kernel
theorem d_jdk_68_13_1 : decode jdk_68_method_13_code 1 = .ok (.ifCond .ge 12, 3) := by decide +kernel
theorem d_jdk_68_13_13 : decode jdk_68_method_13_code 13 = .ok (.aload_n 0, 1) := by decide +kernel
theorem d_jdk_68_13_14 : decode jdk_68_method_13_code 14 = .ok (.iload_n 1, 1) := by decide +kernel
theorem d_jdk_68_13_15 : decode jdk_68_method_13_code 15 = .ok (.invokevirtual 100, 3) := by decide +kernel
theorem d_jdk_68_13_18 : decode jdk_68_method_13_code 18 = .ok (.aload_n 0, 1) := by decide +kernel
theorem d_jdk_68_13_19 : decode jdk_68_method_13_code 19 = .ok (.getfield 79, 3) := by decide +kernel
theorem d_jdk_68_13_22 : decode jdk_68_method_13_code 22 = .ok (.iload_n 1, 1) := by decide +kernel
theorem d_jdk_68_13_23 : decode jdk_68_method_13_code 23 = .ok (.if_icmp .ge 40, 3) := by decide +kernel
theorem d_jdk_68_13_63 : decode jdk_68_method_13_code 63 = .ok (.aload_n 0, 1) := by decide +kernel
theorem d_jdk_68_13_64 : decode jdk_68_method_13_code 64 = .ok (.getfield 79, 3) := by decide +kernel
theorem d_jdk_68_13_67 : decode jdk_68_method_13_code 67 = .ok (.iload_n 1, 1) := by decide +kernel
theorem d_jdk_68_13_68 : decode jdk_68_method_13_code 68 = .ok (.if_icmp .le 8, 3) := by decide +kernel
theorem d_jdk_68_13_71 : decode jdk_68_method_13_code 71 = .ok (.aload_n 0, 1) := by decide +kernel
theorem d_jdk_68_13_72 : decode jdk_68_method_13_code 72 = .ok (.iconst 1, 1) := by decide +kernel
theorem d_jdk_68_13_73 : decode jdk_68_method_13_code 73 = .ok (.putfield 73, 3) := by decide +kernel
theorem d_jdk_68_13_76 : decode jdk_68_method_13_code 76 = .ok (.aload_n 0, 1) := by decide +kernel
theorem d_jdk_68_13_77 : decode jdk_68_method_13_code 77 = .ok (.iload_n 1, 1) := by decide +kernel
theorem d_jdk_68_13_78 : decode jdk_68_method_13_code 78 = .ok (.putfield 79, 3) := by decide +kernel
theorem d_jdk_68_13_81 : decode jdk_68_method_13_code 81 = .ok (.return_, 1) := by decide +kernel
theorem d_jdk_68_22_0 : decode jdk_68_method_22_code 0 = .ok (.aload_n 1, 1) := by decide +kernel
theorem d_jdk_68_22_1 : decode jdk_68_method_22_code 1 = .ok (.ifnonnull 8, 3) := by decide +kernel
theorem d_jdk_68_22_9 : decode jdk_68_method_22_code 9 = .ok (.aload_n 1, 1) := by decide +kernel
theorem d_jdk_68_22_10 : decode jdk_68_method_22_code 10 = .ok (.invokevirtual 32, 3) := by decide +kernel
theorem d_jdk_68_22_13 : decode jdk_68_method_22_code 13 = .ok (.istore_n 2, 1) := by decide +kernel
theorem d_jdk_68_22_14 : decode jdk_68_method_22_code 14 = .ok (.aload_n 0, 1) := by decide +kernel
theorem d_jdk_68_22_15 : decode jdk_68_method_22_code 15 = .ok (.aload_n 0, 1) := by decide +kernel
theorem d_jdk_68_22_16 : decode jdk_68_method_22_code 16 = .ok (.getfield 79, 3) := by decide +kernel
theorem d_jdk_68_22_19 : decode jdk_68_method_22_code 19 = .ok (.iload_n 2, 1) := by decide +kernel
theorem d_jdk_68_22_20 : decode jdk_68_method_22_code 20 = .ok (.iadd, 1) := by decide +kernel
theorem d_jdk_68_22_21 : decode jdk_68_method_22_code 21 = .ok (.invokevirtual 100, 3) := by decide +kernel
theorem d_jdk_68_22_24 : decode jdk_68_method_22_code 24 = .ok (.aload_n 0, 1) := by decide +kernel
theorem d_jdk_68_22_25 : decode jdk_68_method_22_code 25 = .ok (.aload_n 0, 1) := by decide +kernel
theorem d_jdk_68_22_26 : decode jdk_68_method_22_code 26 = .ok (.getfield 79, 3) := by decide +kernel
theorem d_jdk_68_22_29 : decode jdk_68_method_22_code 29 = .ok (.aload_n 1, 1) := by decide +kernel
theorem d_jdk_68_22_30 : decode jdk_68_method_22_code 30 = .ok (.invokevirtual 208, 3) := by decide +kernel
theorem d_jdk_68_22_33 : decode jdk_68_method_22_code 33 = .ok (.aload_n 0, 1) := by decide +kernel
theorem d_jdk_68_22_34 : decode jdk_68_method_22_code 34 = .ok (.dup, 1) := by decide +kernel
theorem d_jdk_68_22_35 : decode jdk_68_method_22_code 35 = .ok (.getfield 79, 3) := by decide +kernel
theorem d_jdk_68_22_38 : decode jdk_68_method_22_code 38 = .ok (.iload_n 2, 1) := by decide +kernel
theorem d_jdk_68_22_39 : decode jdk_68_method_22_code 39 = .ok (.iadd, 1) := by decide +kernel
theorem d_jdk_68_22_40 : decode jdk_68_method_22_code 40 = .ok (.putfield 79, 3) := by decide +kernel
theorem d_jdk_68_22_43 : decode jdk_68_method_22_code 43 = .ok (.aload_n 0, 1) := by decide +kernel
theorem d_jdk_68_22_44 : decode jdk_68_method_22_code 44 = .ok (.areturn, 1) := by decide +kernel
theorem d_jdk_68_2_0 : decode jdk_68_method_2_code 0 = .ok (.aload_n 0, 1) := by decide +kernel
theorem d_jdk_68_2_1 : decode jdk_68_method_2_code 1 = .ok (.invokespecial 3, 3) := by decide +kernel
theorem d_jdk_68_2_4 : decode jdk_68_method_2_code 4 = .ok (.getstatic 18, 3) := by decide +kernel
theorem d_jdk_68_2_7 : decode jdk_68_method_2_code 7 = .ok (.ifCond .eq 18, 3) := by decide +kernel
theorem d_jdk_68_2_10 : decode jdk_68_method_2_code 10 = .ok (.aload_n 0, 1) := by decide +kernel
theorem d_jdk_68_2_11 : decode jdk_68_method_2_code 11 = .ok (.iload_n 1, 1) := by decide +kernel
theorem d_jdk_68_2_12 : decode jdk_68_method_2_code 12 = .ok (.newarray .byte, 2) := by decide +kernel
theorem d_jdk_68_2_14 : decode jdk_68_method_2_code 14 = .ok (.putfield 15, 3) := by decide +kernel
theorem d_jdk_68_2_17 : decode jdk_68_method_2_code 17 = .ok (.aload_n 0, 1) := by decide +kernel
theorem d_jdk_68_2_18 : decode jdk_68_method_2_code 18 = .ok (.iconst 0, 1) := by decide +kernel
theorem d_jdk_68_2_19 : decode jdk_68_method_2_code 19 = .ok (.putfield 22, 3) := by decide +kernel
theorem d_jdk_68_2_22 : decode jdk_68_method_2_code 22 = .ok (.goto 16, 3) := by decide +kernel
theorem d_jdk_68_2_38 : decode jdk_68_method_2_code 38 = .ok (.return_, 1) := by decide +kernel
theorem d_jdk_68_40_0 : decode jdk_68_method_40_code 0 = .ok (.aload_n 0, 1) := by decide +kernel
theorem d_jdk_68_40_1 : decode jdk_68_method_40_code 1 = .ok (.iload_n 1, 1) := by decide +kernel
theorem d_jdk_68_40_2 : decode jdk_68_method_40_code 2 = .ok (.aload_n 0, 1) := by decide +kernel
theorem d_jdk_68_40_3 : decode jdk_68_method_40_code 3 = .ok (.getfield 79, 3) := by decide +kernel
theorem d_jdk_68_40_6 : decode jdk_68_method_40_code 6 = .ok (.invokevirtual 300, 3) := by decide +kernel
theorem d_jdk_68_40_9 : decode jdk_68_method_40_code 9 = .ok (.areturn, 1) := by decide +kernel
theorem d_jdk_68_42_0 : decode jdk_68_method_42_code 0 = .ok (.iload_n 1, 1) := by decide +kernel
theorem d_jdk_68_42_1 : decode jdk_68_method_42_code 1 = .ok (.iload_n 2, 1) := by decide +kernel
theorem d_jdk_68_42_2 : decode jdk_68_method_42_code 2 = .ok (.aload_n 0, 1) := by decide +kernel
theorem d_jdk_68_42_3 : decode jdk_68_method_42_code 3 = .ok (.getfield 79, 3) := by decide +kernel
theorem d_jdk_68_42_6 : decode jdk_68_method_42_code 6 = .ok (.getstatic 179, 3) := by decide +kernel
theorem d_jdk_68_42_9 : decode jdk_68_method_42_code 9 = .ok (.invokestatic 161, 3) := by decide +kernel
theorem d_jdk_68_42_12 : decode jdk_68_method_42_code 12 = .ok (.pop, 1) := by decide +kernel
theorem d_jdk_68_42_13 : decode jdk_68_method_42_code 13 = .ok (.aload_n 0, 1) := by decide +kernel
theorem d_jdk_68_42_14 : decode jdk_68_method_42_code 14 = .ok (.invokevirtual 83, 3) := by decide +kernel
theorem d_jdk_68_42_17 : decode jdk_68_method_42_code 17 = .ok (.ifCond .eq 15, 3) := by decide +kernel
theorem d_jdk_68_42_20 : decode jdk_68_method_42_code 20 = .ok (.aload_n 0, 1) := by decide +kernel
theorem d_jdk_68_42_21 : decode jdk_68_method_42_code 21 = .ok (.getfield 15, 3) := by decide +kernel
theorem d_jdk_68_42_24 : decode jdk_68_method_42_code 24 = .ok (.iload_n 1, 1) := by decide +kernel
theorem d_jdk_68_42_25 : decode jdk_68_method_42_code 25 = .ok (.iload_n 2, 1) := by decide +kernel
theorem d_jdk_68_42_26 : decode jdk_68_method_42_code 26 = .ok (.iload_n 1, 1) := by decide +kernel
theorem d_jdk_68_42_27 : decode jdk_68_method_42_code 27 = .ok (.isub, 1) := by decide +kernel
theorem d_jdk_68_42_28 : decode jdk_68_method_42_code 28 = .ok (.invokestatic 304, 3) := by decide +kernel
theorem d_jdk_68_42_31 : decode jdk_68_method_42_code 31 = .ok (.areturn, 1) := by decide +kernel
theorem d_jdk_68_68_0 : decode jdk_68_method_68_code 0 = .ok (.getstatic 18, 3) := by decide +kernel
theorem d_jdk_68_68_3 : decode jdk_68_method_68_code 3 = .ok (.ifCond .eq 14, 3) := by decide +kernel
theorem d_jdk_68_68_6 : decode jdk_68_method_68_code 6 = .ok (.aload_n 0, 1) := by decide +kernel
theorem d_jdk_68_68_7 : decode jdk_68_method_68_code 7 = .ok (.getfield 22, 3) := by decide +kernel
theorem d_jdk_68_68_10 : decode jdk_68_method_68_code 10 = .ok (.ifCond .ne 7, 3) := by decide +kernel
theorem d_jdk_68_68_13 : decode jdk_68_method_68_code 13 = .ok (.iconst 1, 1) := by decide +kernel
theorem d_jdk_68_68_14 : decode jdk_68_method_68_code 14 = .ok (.goto 4, 3) := by decide +kernel
theorem d_jdk_68_68_18 : decode jdk_68_method_68_code 18 = .ok (.ireturn, 1) := by decide +kernel
theorem d_jdk_68_6_0 : decode jdk_68_method_6_code 0 = .ok (.aload_n 0, 1) := by decide +kernel
theorem d_jdk_68_6_1 : decode jdk_68_method_6_code 1 = .ok (.getfield 79, 3) := by decide +kernel
theorem d_jdk_68_6_4 : decode jdk_68_method_6_code 4 = .ok (.ireturn, 1) := by decide +kernel
theorem d_jdk_68_71_0 : decode jdk_68_method_71_code 0 = .ok (.getstatic 18, 3) := by decide +kernel
theorem d_jdk_68_71_3 : decode jdk_68_method_71_code 3 = .ok (.ifCond .eq 18, 3) := by decide +kernel
theorem d_jdk_68_71_6 : decode jdk_68_method_71_code 6 = .ok (.aload_n 0, 1) := by decide +kernel
theorem d_jdk_68_71_7 : decode jdk_68_method_71_code 7 = .ok (.getfield 22, 3) := by decide +kernel
theorem d_jdk_68_71_10 : decode jdk_68_method_71_code 10 = .ok (.aload_n 1, 1) := by decide +kernel
theorem d_jdk_68_71_11 : decode jdk_68_method_71_code 11 = .ok (.invokevirtual 40, 3) := by decide +kernel
theorem d_jdk_68_71_14 : decode jdk_68_method_71_code 14 = .ok (.if_icmp .eq 7, 3) := by decide +kernel
theorem d_jdk_68_71_21 : decode jdk_68_method_71_code 21 = .ok (.return_, 1) := by decide +kernel
theorem d_jdk_68_73_0 : decode jdk_68_method_73_code 0 = .ok (.aload_n 0, 1) := by decide +kernel
theorem d_jdk_68_73_1 : decode jdk_68_method_73_code 1 = .ok (.aload_n 2, 1) := by decide +kernel
theorem d_jdk_68_73_2 : decode jdk_68_method_73_code 2 = .ok (.invokevirtual 397, 3) := by decide +kernel
theorem d_jdk_68_73_5 : decode jdk_68_method_73_code 5 = .ok (.aload_n 2, 1) := by decide +kernel
theorem d_jdk_68_73_6 : decode jdk_68_method_73_code 6 = .ok (.aload_n 0, 1) := by decide +kernel
theorem d_jdk_68_73_7 : decode jdk_68_method_73_code 7 = .ok (.getfield 15, 3) := by decide +kernel
theorem d_jdk_68_73_10 : decode jdk_68_method_73_code 10 = .ok (.iload_n 1, 1) := by decide +kernel
theorem d_jdk_68_73_11 : decode jdk_68_method_73_code 11 = .ok (.aload_n 0, 1) := by decide +kernel
theorem d_jdk_68_73_12 : decode jdk_68_method_73_code 12 = .ok (.getfield 22, 3) := by decide +kernel
theorem d_jdk_68_73_15 : decode jdk_68_method_73_code 15 = .ok (.invokevirtual 399, 3) := by decide +kernel
theorem d_jdk_68_73_18 : decode jdk_68_method_73_code 18 = .ok (.return_, 1) := by decide +kernel
theorem d_jdk_68_9_0 : decode jdk_68_method_9_code 0 = .ok (.aload_n 0, 1) := by decide +kernel
theorem d_jdk_68_9_1 : decode jdk_68_method_9_code 1 = .ok (.getfield 15, 3) := by decide +kernel
theorem d_jdk_68_9_4 : decode jdk_68_method_9_code 4 = .ok (.arraylength, 1) := by decide +kernel
theorem d_jdk_68_9_5 : decode jdk_68_method_9_code 5 = .ok (.aload_n 0, 1) := by decide +kernel
theorem d_jdk_68_9_6 : decode jdk_68_method_9_code 6 = .ok (.getfield 22, 3) := by decide +kernel
theorem d_jdk_68_9_9 : decode jdk_68_method_9_code 9 = .ok (.ishr, 1) := by decide +kernel
theorem d_jdk_68_9_10 : decode jdk_68_method_9_code 10 = .ok (.istore_n 2, 1) := by decide +kernel
theorem d_jdk_68_9_11 : decode jdk_68_method_9_code 11 = .ok (.iload_n 1, 1) := by decide +kernel
theorem d_jdk_68_9_12 : decode jdk_68_method_9_code 12 = .ok (.iload_n 2, 1) := by decide +kernel
theorem d_jdk_68_9_13 : decode jdk_68_method_9_code 13 = .ok (.isub, 1) := by decide +kernel
theorem d_jdk_68_9_14 : decode jdk_68_method_9_code 14 = .ok (.ifCond .le 24, 3) := by decide +kernel
theorem d_jdk_68_9_38 : decode jdk_68_method_9_code 38 = .ok (.return_, 1) := by decide +kernel
theorem d_3_0 : decode method_3_code 0 = .ok (.iload_n 1, 1) := by decide +kernel
theorem d_3_1 : decode method_3_code 1 = .ok (.ifCond .ne 7, 3) := by decide +kernel
theorem d_3_4 : decode method_3_code 4 = .ok (.aconst_null, 1) := by decide +kernel
theorem d_3_5 : decode method_3_code 5 = .ok (.goto 13, 3) := by decide +kernel
theorem d_3_8 : decode method_3_code 8 = .ok (.iload_n 1, 1) := by decide +kernel
theorem d_3_9 : decode method_3_code 9 = .ok (.iconst 1, 1) := by decide +kernel
theorem d_3_10 : decode method_3_code 10 = .ok (.if_icmp .ne 7, 3) := by decide +kernel
theorem d_3_13 : decode method_3_code 13 = .ok (.aload_n 2, 1) := by decide +kernel
theorem d_3_14 : decode method_3_code 14 = .ok (.goto 4, 3) := by decide +kernel
theorem d_3_17 : decode method_3_code 17 = .ok (.aload_n 3, 1) := by decide +kernel
theorem d_3_18 : decode method_3_code 18 = .ok (.astore 6, 2) := by decide +kernel
theorem d_3_20 : decode method_3_code 20 = .ok (.iload_n 1, 1) := by decide +kernel
theorem d_3_21 : decode method_3_code 21 = .ok (.ifCond .ne 7, 3) := by decide +kernel
theorem d_3_24 : decode method_3_code 24 = .ok (.iconst 0, 1) := by decide +kernel
theorem d_3_25 : decode method_3_code 25 = .ok (.goto 18, 3) := by decide +kernel
theorem d_3_28 : decode method_3_code 28 = .ok (.iload_n 1, 1) := by decide +kernel
theorem d_3_29 : decode method_3_code 29 = .ok (.iconst 1, 1) := by decide +kernel
theorem d_3_30 : decode method_3_code 30 = .ok (.if_icmp .ne 8, 3) := by decide +kernel
theorem d_3_33 : decode method_3_code 33 = .ok (.iload 4, 2) := by decide +kernel
theorem d_3_35 : decode method_3_code 35 = .ok (.goto 8, 3) := by decide +kernel
theorem d_3_38 : decode method_3_code 38 = .ok (.iload 4, 2) := by decide +kernel
theorem d_3_40 : decode method_3_code 40 = .ok (.iload 5, 2) := by decide +kernel
theorem d_3_42 : decode method_3_code 42 = .ok (.iadd, 1) := by decide +kernel
theorem d_3_43 : decode method_3_code 43 = .ok (.istore 7, 2) := by decide +kernel
theorem d_3_45 : decode method_3_code 45 = .ok (.aload_n 0, 1) := by decide +kernel
theorem d_3_46 : decode method_3_code 46 = .ok (.invokevirtual 22, 3) := by decide +kernel
theorem d_3_49 : decode method_3_code 49 = .ok (.astore 8, 2) := by decide +kernel
theorem d_3_51 : decode method_3_code 51 = .ok (.aload 8, 2) := by decide +kernel
theorem d_3_53 : decode method_3_code 53 = .ok (.aload 6, 2) := by decide +kernel
theorem d_3_55 : decode method_3_code 55 = .ok (.invokestatic 26, 3) := by decide +kernel
theorem d_3_58 : decode method_3_code 58 = .ok (.ifCond .eq 16, 3) := by decide +kernel
theorem d_3_61 : decode method_3_code 61 = .ok (.aload_n 0, 1) := by decide +kernel
theorem d_3_62 : decode method_3_code 62 = .ok (.invokevirtual 38, 3) := by decide +kernel
theorem d_3_65 : decode method_3_code 65 = .ok (.iload 7, 2) := by decide +kernel
theorem d_3_67 : decode method_3_code 67 = .ok (.if_icmp .ne 7, 3) := by decide +kernel
theorem d_3_70 : decode method_3_code 70 = .ok (.iconst 1, 1) := by decide +kernel
theorem d_3_71 : decode method_3_code 71 = .ok (.goto 4, 3) := by decide +kernel
theorem d_3_75 : decode method_3_code 75 = .ok (.ireturn, 1) := by decide +kernel
theorem d_4_0 : decode method_4_code 0 = .ok (.aload_n 1, 1) := by decide +kernel
theorem d_4_1 : decode method_4_code 1 = .ok (.ifnonnull 13, 3) := by decide +kernel
theorem d_4_4 : decode method_4_code 4 = .ok (.aload_n 0, 1) := by decide +kernel
theorem d_4_5 : decode method_4_code 5 = .ok (.ifnonnull 7, 3) := by decide +kernel
theorem d_4_8 : decode method_4_code 8 = .ok (.iconst 1, 1) := by decide +kernel
theorem d_4_9 : decode method_4_code 9 = .ok (.goto 4, 3) := by decide +kernel
theorem d_4_13 : decode method_4_code 13 = .ok (.ireturn, 1) := by decide +kernel
theorem d_4_14 : decode method_4_code 14 = .ok (.aload_n 0, 1) := by decide +kernel
theorem d_4_15 : decode method_4_code 15 = .ok (.ifnull 15, 3) := by decide +kernel
theorem d_4_18 : decode method_4_code 18 = .ok (.aload_n 0, 1) := by decide +kernel
theorem d_4_19 : decode method_4_code 19 = .ok (.aload_n 1, 1) := by decide +kernel
theorem d_4_20 : decode method_4_code 20 = .ok (.invokevirtual 42, 3) := by decide +kernel
theorem d_4_23 : decode method_4_code 23 = .ok (.ifCond .eq 7, 3) := by decide +kernel
theorem d_4_26 : decode method_4_code 26 = .ok (.iconst 1, 1) := by decide +kernel
theorem d_4_27 : decode method_4_code 27 = .ok (.goto 4, 3) := by decide +kernel
theorem d_4_31 : decode method_4_code 31 = .ok (.ireturn, 1) := by decide +kernel
theorem d_5_0 : decode method_5_code 0 = .ok (.iload_n 1, 1) := by decide +kernel
theorem d_5_1 : decode method_5_code 1 = .ok (.sipush 255, 3) := by decide +kernel
theorem d_5_4 : decode method_5_code 4 = .ok (.iand, 1) := by decide +kernel
theorem d_5_5 : decode method_5_code 5 = .ok (.i2c, 1) := by decide +kernel
theorem d_5_6 : decode method_5_code 6 = .ok (.istore_n 2, 1) := by decide +kernel
theorem d_5_7 : decode method_5_code 7 = .ok (.iload_n 1, 1) := by decide +kernel
theorem d_5_8 : decode method_5_code 8 = .ok (.bipush 8, 2) := by decide +kernel
theorem d_5_10 : decode method_5_code 10 = .ok (.iushr, 1) := by decide +kernel
theorem d_5_11 : decode method_5_code 11 = .ok (.sipush 255, 3) := by decide +kernel
theorem d_5_14 : decode method_5_code 14 = .ok (.iand, 1) := by decide +kernel
theorem d_5_15 : decode method_5_code 15 = .ok (.i2c, 1) := by decide +kernel
theorem d_5_16 : decode method_5_code 16 = .ok (.istore_n 3, 1) := by decide +kernel
theorem d_5_17 : decode method_5_code 17 = .ok (.iload_n 1, 1) := by decide +kernel
theorem d_5_18 : decode method_5_code 18 = .ok (.bipush 16, 2) := by decide +kernel
theorem d_5_20 : decode method_5_code 20 = .ok (.iushr, 1) := by decide +kernel
theorem d_5_21 : decode method_5_code 21 = .ok (.sipush 255, 3) := by decide +kernel
theorem d_5_24 : decode method_5_code 24 = .ok (.iand, 1) := by decide +kernel
theorem d_5_25 : decode method_5_code 25 = .ok (.i2c, 1) := by decide +kernel
theorem d_5_26 : decode method_5_code 26 = .ok (.istore 4, 2) := by decide +kernel
theorem d_5_28 : decode method_5_code 28 = .ok (.iload_n 0, 1) := by decide +kernel
theorem d_5_29 : decode method_5_code 29 = .ok (.ifCond .ne 14, 3) := by decide +kernel
theorem d_5_32 : decode method_5_code 32 = .ok (.new 43, 3) := by decide +kernel
theorem d_5_35 : decode method_5_code 35 = .ok (.dup, 1) := by decide +kernel
theorem d_5_36 : decode method_5_code 36 = .ok (.iconst 0, 1) := by decide +kernel
theorem d_5_37 : decode method_5_code 37 = .ok (.newarray .char, 2) := by decide +kernel
theorem d_5_39 : decode method_5_code 39 = .ok (.invokespecial 48, 3) := by decide +kernel
theorem d_5_42 : decode method_5_code 42 = .ok (.areturn, 1) := by decide +kernel
theorem d_5_43 : decode method_5_code 43 = .ok (.iload_n 0, 1) := by decide +kernel
theorem d_5_44 : decode method_5_code 44 = .ok (.iconst 1, 1) := by decide +kernel
theorem d_5_45 : decode method_5_code 45 = .ok (.if_icmp .ne 18, 3) := by decide +kernel
theorem d_5_48 : decode method_5_code 48 = .ok (.new 43, 3) := by decide +kernel
theorem d_5_51 : decode method_5_code 51 = .ok (.dup, 1) := by decide +kernel
theorem d_5_52 : decode method_5_code 52 = .ok (.iconst 1, 1) := by decide +kernel
theorem d_5_53 : decode method_5_code 53 = .ok (.newarray .char, 2) := by decide +kernel
theorem d_5_55 : decode method_5_code 55 = .ok (.dup, 1) := by decide +kernel
theorem d_5_56 : decode method_5_code 56 = .ok (.iconst 0, 1) := by decide +kernel
theorem d_5_57 : decode method_5_code 57 = .ok (.iload_n 2, 1) := by decide +kernel
theorem d_5_58 : decode method_5_code 58 = .ok (.castore, 1) := by decide +kernel
theorem d_5_59 : decode method_5_code 59 = .ok (.invokespecial 48, 3) := by decide +kernel
theorem d_5_62 : decode method_5_code 62 = .ok (.areturn, 1) := by decide +kernel
theorem d_5_63 : decode method_5_code 63 = .ok (.iload_n 0, 1) := by decide +kernel
theorem d_5_64 : decode method_5_code 64 = .ok (.iconst 2, 1) := by decide +kernel
theorem d_5_65 : decode method_5_code 65 = .ok (.if_icmp .ne 22, 3) := by decide +kernel
theorem d_5_68 : decode method_5_code 68 = .ok (.new 43, 3) := by decide +kernel
theorem d_5_71 : decode method_5_code 71 = .ok (.dup, 1) := by decide +kernel
theorem d_5_72 : decode method_5_code 72 = .ok (.iconst 2, 1) := by decide +kernel
theorem d_5_73 : decode method_5_code 73 = .ok (.newarray .char, 2) := by decide +kernel
theorem d_5_75 : decode method_5_code 75 = .ok (.dup, 1) := by decide +kernel
theorem d_5_76 : decode method_5_code 76 = .ok (.iconst 0, 1) := by decide +kernel
theorem d_5_77 : decode method_5_code 77 = .ok (.iload_n 2, 1) := by decide +kernel
theorem d_5_78 : decode method_5_code 78 = .ok (.castore, 1) := by decide +kernel
theorem d_5_79 : decode method_5_code 79 = .ok (.dup, 1) := by decide +kernel
theorem d_5_80 : decode method_5_code 80 = .ok (.iconst 1, 1) := by decide +kernel
theorem d_5_81 : decode method_5_code 81 = .ok (.iload_n 3, 1) := by decide +kernel
theorem d_5_82 : decode method_5_code 82 = .ok (.castore, 1) := by decide +kernel
theorem d_5_83 : decode method_5_code 83 = .ok (.invokespecial 48, 3) := by decide +kernel
theorem d_5_86 : decode method_5_code 86 = .ok (.areturn, 1) := by decide +kernel
theorem d_5_87 : decode method_5_code 87 = .ok (.new 43, 3) := by decide +kernel
theorem d_5_90 : decode method_5_code 90 = .ok (.dup, 1) := by decide +kernel
theorem d_5_91 : decode method_5_code 91 = .ok (.iconst 3, 1) := by decide +kernel
theorem d_5_92 : decode method_5_code 92 = .ok (.newarray .char, 2) := by decide +kernel
theorem d_5_94 : decode method_5_code 94 = .ok (.dup, 1) := by decide +kernel
theorem d_5_95 : decode method_5_code 95 = .ok (.iconst 0, 1) := by decide +kernel
theorem d_5_96 : decode method_5_code 96 = .ok (.iload_n 2, 1) := by decide +kernel
theorem d_5_97 : decode method_5_code 97 = .ok (.castore, 1) := by decide +kernel
theorem d_5_98 : decode method_5_code 98 = .ok (.dup, 1) := by decide +kernel
theorem d_5_99 : decode method_5_code 99 = .ok (.iconst 1, 1) := by decide +kernel
theorem d_5_100 : decode method_5_code 100 = .ok (.iload_n 3, 1) := by decide +kernel
theorem d_5_101 : decode method_5_code 101 = .ok (.castore, 1) := by decide +kernel
theorem d_5_102 : decode method_5_code 102 = .ok (.dup, 1) := by decide +kernel
theorem d_5_103 : decode method_5_code 103 = .ok (.iconst 2, 1) := by decide +kernel
theorem d_5_104 : decode method_5_code 104 = .ok (.iload 4, 2) := by decide +kernel
theorem d_5_106 : decode method_5_code 106 = .ok (.castore, 1) := by decide +kernel
theorem d_5_107 : decode method_5_code 107 = .ok (.invokespecial 48, 3) := by decide +kernel
theorem d_5_110 : decode method_5_code 110 = .ok (.areturn, 1) := by decide +kernel
theorem d_prog_28_1_0 : decode prog_28_method_1_code 0 = .ok (.aload_n 0, 1) := by decide +kernel
theorem d_prog_28_1_1 : decode prog_28_method_1_code 1 = .ok (.invokespecial 1, 3) := by decide +kernel
theorem d_prog_28_1_4 : decode prog_28_method_1_code 4 = .ok (.aload_n 0, 1) := by decide +kernel
theorem d_prog_28_1_5 : decode prog_28_method_1_code 5 = .ok (.new 7, 3) := by decide +kernel
theorem d_prog_28_1_8 : decode prog_28_method_1_code 8 = .ok (.dup, 1) := by decide +kernel
theorem d_prog_28_1_9 : decode prog_28_method_1_code 9 = .ok (.invokespecial 9, 3) := by decide +kernel
theorem d_prog_28_1_12 : decode prog_28_method_1_code 12 = .ok (.putfield 10, 3) := by decide +kernel
theorem d_prog_28_1_15 : decode prog_28_method_1_code 15 = .ok (.aload_n 0, 1) := by decide +kernel
theorem d_prog_28_1_16 : decode prog_28_method_1_code 16 = .ok (.bipush 16, 2) := by decide +kernel
theorem d_prog_28_1_18 : decode prog_28_method_1_code 18 = .ok (.newarray .int, 2) := by decide +kernel
theorem d_prog_28_1_20 : decode prog_28_method_1_code 20 = .ok (.putfield 16, 3) := by decide +kernel
theorem d_prog_28_1_23 : decode prog_28_method_1_code 23 = .ok (.aload_n 0, 1) := by decide +kernel
theorem d_prog_28_1_24 : decode prog_28_method_1_code 24 = .ok (.bipush 16, 2) := by decide +kernel
theorem d_prog_28_1_26 : decode prog_28_method_1_code 26 = .ok (.newarray .int, 2) := by decide +kernel
theorem d_prog_28_1_28 : decode prog_28_method_1_code 28 = .ok (.putfield 20, 3) := by decide +kernel
theorem d_prog_28_1_31 : decode prog_28_method_1_code 31 = .ok (.return_, 1) := by decide +kernel
theorem d_prog_28_2_0 : decode prog_28_method_2_code 0 = .ok (.aload_n 2, 1) := by decide +kernel
theorem d_prog_28_2_1 : decode prog_28_method_2_code 1 = .ok (.ifnonnull 4, 3) := by decide +kernel
theorem d_prog_28_2_4 : decode prog_28_method_2_code 4 = .ok (.return_, 1) := by decide +kernel
theorem d_prog_28_2_5 : decode prog_28_method_2_code 5 = .ok (.aload_n 0, 1) := by decide +kernel
theorem d_prog_28_2_6 : decode prog_28_method_2_code 6 = .ok (.getfield 23, 3) := by decide +kernel
theorem d_prog_28_2_9 : decode prog_28_method_2_code 9 = .ok (.aload_n 0, 1) := by decide +kernel
theorem d_prog_28_2_10 : decode prog_28_method_2_code 10 = .ok (.getfield 16, 3) := by decide +kernel
theorem d_prog_28_2_13 : decode prog_28_method_2_code 13 = .ok (.arraylength, 1) := by decide +kernel
theorem d_prog_28_2_14 : decode prog_28_method_2_code 14 = .ok (.if_icmp .ne 37, 3) := by decide +kernel
theorem d_prog_28_2_51 : decode prog_28_method_2_code 51 = .ok (.aload_n 0, 1) := by decide +kernel
theorem d_prog_28_2_52 : decode prog_28_method_2_code 52 = .ok (.getfield 16, 3) := by decide +kernel
theorem d_prog_28_2_55 : decode prog_28_method_2_code 55 = .ok (.aload_n 0, 1) := by decide +kernel
theorem d_prog_28_2_56 : decode prog_28_method_2_code 56 = .ok (.getfield 23, 3) := by decide +kernel
theorem d_prog_28_2_59 : decode prog_28_method_2_code 59 = .ok (.iload_n 1, 1) := by decide +kernel
theorem d_prog_28_2_60 : decode prog_28_method_2_code 60 = .ok (.iastore, 1) := by decide +kernel
theorem d_prog_28_2_61 : decode prog_28_method_2_code 61 = .ok (.aload_n 0, 1) := by decide +kernel
theorem d_prog_28_2_62 : decode prog_28_method_2_code 62 = .ok (.getfield 20, 3) := by decide +kernel
theorem d_prog_28_2_65 : decode prog_28_method_2_code 65 = .ok (.aload_n 0, 1) := by decide +kernel
theorem d_prog_28_2_66 : decode prog_28_method_2_code 66 = .ok (.getfield 23, 3) := by decide +kernel
theorem d_prog_28_2_69 : decode prog_28_method_2_code 69 = .ok (.aload_n 0, 1) := by decide +kernel
theorem d_prog_28_2_70 : decode prog_28_method_2_code 70 = .ok (.getfield 10, 3) := by decide +kernel
theorem d_prog_28_2_73 : decode prog_28_method_2_code 73 = .ok (.invokevirtual 33, 3) := by decide +kernel
theorem d_prog_28_2_76 : decode prog_28_method_2_code 76 = .ok (.iastore, 1) := by decide +kernel
theorem d_prog_28_2_77 : decode prog_28_method_2_code 77 = .ok (.aload_n 0, 1) := by decide +kernel
theorem d_prog_28_2_78 : decode prog_28_method_2_code 78 = .ok (.dup, 1) := by decide +kernel
theorem d_prog_28_2_79 : decode prog_28_method_2_code 79 = .ok (.getfield 23, 3) := by decide +kernel
theorem d_prog_28_2_82 : decode prog_28_method_2_code 82 = .ok (.iconst 1, 1) := by decide +kernel
theorem d_prog_28_2_83 : decode prog_28_method_2_code 83 = .ok (.iadd, 1) := by decide +kernel
theorem d_prog_28_2_84 : decode prog_28_method_2_code 84 = .ok (.putfield 23, 3) := by decide +kernel
theorem d_prog_28_2_87 : decode prog_28_method_2_code 87 = .ok (.aload_n 0, 1) := by decide +kernel
theorem d_prog_28_2_88 : decode prog_28_method_2_code 88 = .ok (.getfield 10, 3) := by decide +kernel
theorem d_prog_28_2_91 : decode prog_28_method_2_code 91 = .ok (.aload_n 2, 1) := by decide +kernel
theorem d_prog_28_2_92 : decode prog_28_method_2_code 92 = .ok (.invokevirtual 37, 3) := by decide +kernel
theorem d_prog_28_2_95 : decode prog_28_method_2_code 95 = .ok (.pop, 1) := by decide +kernel
theorem d_prog_28_2_96 : decode prog_28_method_2_code 96 = .ok (.aload_n 0, 1) := by decide +kernel
theorem d_prog_28_2_97 : decode prog_28_method_2_code 97 = .ok (.aload_n 2, 1) := by decide +kernel
theorem d_prog_28_2_98 : decode prog_28_method_2_code 98 = .ok (.putfield 41, 3) := by decide +kernel
theorem d_prog_28_2_101 : decode prog_28_method_2_code 101 = .ok (.return_, 1) := by decide +kernel
theorem d_prog_28_3_0 : decode prog_28_method_3_code 0 = .ok (.aload_n 0, 1) := by decide +kernel
theorem d_prog_28_3_1 : decode prog_28_method_3_code 1 = .ok (.getfield 23, 3) := by decide +kernel
theorem d_prog_28_3_4 : decode prog_28_method_3_code 4 = .ok (.ifCond .le 49, 3) := by decide +kernel
theorem d_prog_28_3_7 : decode prog_28_method_3_code 7 = .ok (.aload_n 0, 1) := by decide +kernel
theorem d_prog_28_3_8 : decode prog_28_method_3_code 8 = .ok (.getfield 16, 3) := by decide +kernel
theorem d_prog_28_3_11 : decode prog_28_method_3_code 11 = .ok (.aload_n 0, 1) := by decide +kernel
theorem d_prog_28_3_12 : decode prog_28_method_3_code 12 = .ok (.getfield 23, 3) := by decide +kernel
theorem d_prog_28_3_15 : decode prog_28_method_3_code 15 = .ok (.iconst 1, 1) := by decide +kernel
theorem d_prog_28_3_16 : decode prog_28_method_3_code 16 = .ok (.isub, 1) := by decide +kernel
theorem d_prog_28_3_17 : decode prog_28_method_3_code 17 = .ok (.iaload, 1) := by decide +kernel
theorem d_prog_28_3_18 : decode prog_28_method_3_code 18 = .ok (.iload_n 1, 1) := by decide +kernel
theorem d_prog_28_3_19 : decode prog_28_method_3_code 19 = .ok (.if_icmp .ne 34, 3) := by decide +kernel
theorem d_prog_28_3_22 : decode prog_28_method_3_code 22 = .ok (.aload_n 0, 1) := by decide +kernel
theorem d_prog_28_3_23 : decode prog_28_method_3_code 23 = .ok (.dup, 1) := by decide +kernel
theorem d_prog_28_3_24 : decode prog_28_method_3_code 24 = .ok (.getfield 23, 3) := by decide +kernel
theorem d_prog_28_3_27 : decode prog_28_method_3_code 27 = .ok (.iconst 1, 1) := by decide +kernel
theorem d_prog_28_3_28 : decode prog_28_method_3_code 28 = .ok (.isub, 1) := by decide +kernel
theorem d_prog_28_3_29 : decode prog_28_method_3_code 29 = .ok (.putfield 23, 3) := by decide +kernel
theorem d_prog_28_3_32 : decode prog_28_method_3_code 32 = .ok (.aload_n 0, 1) := by decide +kernel
theorem d_prog_28_3_33 : decode prog_28_method_3_code 33 = .ok (.getfield 10, 3) := by decide +kernel
theorem d_prog_28_3_36 : decode prog_28_method_3_code 36 = .ok (.aload_n 0, 1) := by decide +kernel
theorem d_prog_28_3_37 : decode prog_28_method_3_code 37 = .ok (.getfield 20, 3) := by decide +kernel
theorem d_prog_28_3_40 : decode prog_28_method_3_code 40 = .ok (.aload_n 0, 1) := by decide +kernel
theorem d_prog_28_3_41 : decode prog_28_method_3_code 41 = .ok (.getfield 23, 3) := by decide +kernel
theorem d_prog_28_3_44 : decode prog_28_method_3_code 44 = .ok (.iaload, 1) := by decide +kernel
theorem d_prog_28_3_45 : decode prog_28_method_3_code 45 = .ok (.invokevirtual 45, 3) := by decide +kernel
theorem d_prog_28_3_48 : decode prog_28_method_3_code 48 = .ok (.aload_n 0, 1) := by decide +kernel
theorem d_prog_28_3_49 : decode prog_28_method_3_code 49 = .ok (.aconst_null, 1) := by decide +kernel
theorem d_prog_28_3_50 : decode prog_28_method_3_code 50 = .ok (.putfield 41, 3) := by decide +kernel
theorem d_prog_28_3_53 : decode prog_28_method_3_code 53 = .ok (.return_, 1) := by decide +kernel
theorem d_prog_28_4_0 : decode prog_28_method_4_code 0 = .ok (.aload_n 0, 1) := by decide +kernel
theorem d_prog_28_4_1 : decode prog_28_method_4_code 1 = .ok (.getfield 41, 3) := by decide +kernel
theorem d_prog_28_4_4 : decode prog_28_method_4_code 4 = .ok (.ifnonnull 32, 3) := by decide +kernel
theorem d_prog_28_4_7 : decode prog_28_method_4_code 7 = .ok (.aload_n 0, 1) := by decide +kernel
theorem d_prog_28_4_8 : decode prog_28_method_4_code 8 = .ok (.getfield 23, 3) := by decide +kernel
theorem d_prog_28_4_11 : decode prog_28_method_4_code 11 = .ok (.ifCond .le 25, 3) := by decide +kernel
theorem d_prog_28_4_14 : decode prog_28_method_4_code 14 = .ok (.aload_n 0, 1) := by decide +kernel
theorem d_prog_28_4_15 : decode prog_28_method_4_code 15 = .ok (.aload_n 0, 1) := by decide +kernel
theorem d_prog_28_4_16 : decode prog_28_method_4_code 16 = .ok (.getfield 10, 3) := by decide +kernel
theorem d_prog_28_4_19 : decode prog_28_method_4_code 19 = .ok (.aload_n 0, 1) := by decide +kernel
theorem d_prog_28_4_20 : decode prog_28_method_4_code 20 = .ok (.getfield 20, 3) := by decide +kernel
theorem d_prog_28_4_23 : decode prog_28_method_4_code 23 = .ok (.aload_n 0, 1) := by decide +kernel
theorem d_prog_28_4_24 : decode prog_28_method_4_code 24 = .ok (.getfield 23, 3) := by decide +kernel
theorem d_prog_28_4_27 : decode prog_28_method_4_code 27 = .ok (.iconst 1, 1) := by decide +kernel
theorem d_prog_28_4_28 : decode prog_28_method_4_code 28 = .ok (.isub, 1) := by decide +kernel
theorem d_prog_28_4_29 : decode prog_28_method_4_code 29 = .ok (.iaload, 1) := by decide +kernel
theorem d_prog_28_4_30 : decode prog_28_method_4_code 30 = .ok (.invokevirtual 49, 3) := by decide +kernel
theorem d_prog_28_4_33 : decode prog_28_method_4_code 33 = .ok (.putfield 41, 3) := by decide +kernel
theorem d_prog_28_4_36 : decode prog_28_method_4_code 36 = .ok (.aload_n 0, 1) := by decide +kernel
theorem d_prog_28_4_37 : decode prog_28_method_4_code 37 = .ok (.getfield 41, 3) := by decide +kernel
theorem d_prog_28_4_40 : decode prog_28_method_4_code 40 = .ok (.areturn, 1) := by decide +kernel
theorem d_prog_28_5_0 : decode prog_28_method_5_code 0 = .ok (.aload_n 0, 1) := by decide +kernel
theorem d_prog_28_5_1 : decode prog_28_method_5_code 1 = .ok (.getfield 10, 3) := by decide +kernel
theorem d_prog_28_5_4 : decode prog_28_method_5_code 4 = .ok (.invokevirtual 33, 3) := by decide +kernel
theorem d_prog_28_5_7 : decode prog_28_method_5_code 7 = .ok (.ireturn, 1) := by decide +kernel
theorem pd_0 : parseMethodDescriptor "([CI[BII)I" = some ⟨[(.array .char), .int, (.array .byte), .int, .int], some .int⟩ := by decide +kernel
theorem pd_1 : parseMethodDescriptor "([CII)[B" = some ⟨[(.array .char), .int, .int], some (.array .byte)⟩ := by decide +kernel
theorem pd_2 : parseMethodDescriptor "([BI)B" = some ⟨[(.array .byte), .int], some .byte⟩ := by decide +kernel
theorem pd_3 : parseMethodDescriptor "([CIILjava/lang/Void;)V" = some ⟨[(.array .char), .int, .int, (.object "java/lang/Void")], none⟩ := by decide +kernel
theorem pd_4 : parseMethodDescriptor "()B" = some ⟨[], some .byte⟩ := by decide +kernel
theorem pd_5 : parseMethodDescriptor "([B[B)Z" = some ⟨[(.array .byte), (.array .byte)], some .boolean⟩ := by decide +kernel
theorem pd_6 : parseMethodDescriptor "(II)V" = some ⟨[.int, .int], none⟩ := by decide +kernel
theorem pd_7 : parseMethodDescriptor "(II)I" = some ⟨[.int, .int], some .int⟩ := by decide +kernel
theorem pd_8 : parseMethodDescriptor "([BII)[B" = some ⟨[(.array .byte), .int, .int], some (.array .byte)⟩ := by decide +kernel
theorem pd_9 : parseMethodDescriptor "(I)V" = some ⟨[.int], none⟩ := by decide +kernel
theorem pd_10 : parseMethodDescriptor "()I" = some ⟨[], some .int⟩ := by decide +kernel
theorem pd_11 : parseMethodDescriptor "(Ljava/lang/String;)V" = some ⟨[(.object "java/lang/String")], none⟩ := by decide +kernel
theorem pd_12 : parseMethodDescriptor "([BIB)V" = some ⟨[(.array .byte), .int, .byte], none⟩ := by decide +kernel
theorem pd_13 : parseMethodDescriptor "(ILjava/lang/String;)V" = some ⟨[.int, (.object "java/lang/String")], none⟩ := by decide +kernel
theorem pd_14 : parseMethodDescriptor "(Ljava/lang/String;)Ljava/lang/AbstractStringBuilder;" = some ⟨[(.object "java/lang/String")], some (.object "java/lang/AbstractStringBuilder")⟩ := by decide +kernel
theorem pd_15 : parseMethodDescriptor "([C)V" = some ⟨[(.array .char)], none⟩ := by decide +kernel
theorem pd_16 : parseMethodDescriptor "()V" = some ⟨[], none⟩ := by decide +kernel
theorem pd_17 : parseMethodDescriptor "(Ljava/lang/String;)Ljava/lang/StringBuilder;" = some ⟨[(.object "java/lang/String")], some (.object "java/lang/StringBuilder")⟩ := by decide +kernel
theorem pd_18 : parseMethodDescriptor "([BB)V" = some ⟨[(.array .byte), .byte], none⟩ := by decide +kernel
theorem pd_19 : parseMethodDescriptor "(IIILjava/util/function/BiFunction;)I" = some ⟨[.int, .int, .int, (.object "java/util/function/BiFunction")], some .int⟩ := by decide +kernel
theorem pd_20 : parseMethodDescriptor "()Z" = some ⟨[], some .boolean⟩ := by decide +kernel
theorem pd_21 : parseMethodDescriptor "([BII)Ljava/lang/String;" = some ⟨[(.array .byte), .int, .int], some (.object "java/lang/String")⟩ := by decide +kernel
theorem pd_22 : parseMethodDescriptor "(II)Ljava/lang/String;" = some ⟨[.int, .int], some (.object "java/lang/String")⟩ := by decide +kernel
theorem pd_23 : parseMethodDescriptor "(I)Ljava/lang/String;" = some ⟨[.int], some (.object "java/lang/String")⟩ := by decide +kernel
theorem pd_24 : parseMethodDescriptor "(Ljava/lang/Object;)Z" = some ⟨[(.object "java/lang/Object")], some .boolean⟩ := by decide +kernel
theorem pd_25 : parseMethodDescriptor "()Ljava/lang/String;" = some ⟨[], some (.object "java/lang/String")⟩ := by decide +kernel
theorem pd_26 : parseMethodDescriptor "(Ljava/lang/String;Ljava/lang/String;)Z" = some ⟨[(.object "java/lang/String"), (.object "java/lang/String")], some .boolean⟩ := by decide +kernel
theorem pd_27 : parseMethodDescriptor "(Lcom/example/colophon/colophon/OpenIds;ILjava/lang/String;Ljava/lang/String;II)Z" = some ⟨[(.object "com/example/colophon/colophon/OpenIds"), .int, (.object "java/lang/String"), (.object "java/lang/String"), .int, .int], some .boolean⟩ := by decide +kernel
theorem pn_0 : plainName "java/lang/StringUTF16" = true := by first | (simp [plainName, overriddenIn]; done) | decide +kernel
theorem pn_1 : plainName "java/lang/String" = true := by first | (simp [plainName, overriddenIn]; done) | decide +kernel
theorem pn_2 : plainName "java/lang/StringLatin1" = true := by first | (simp [plainName, overriddenIn]; done) | decide +kernel
theorem pn_3 : plainFor (⟨"java/lang/Math", "min", "(II)I"⟩ : MethodName) = true := by decide +kernel
theorem pn_4 : plainName "java/util/Arrays" = true := by first | (simp [plainName, overriddenIn]; done) | decide +kernel
theorem pn_5 : plainName "jdk/internal/util/Preconditions" = true := by first | (simp [plainName, overriddenIn]; done) | decide +kernel
theorem pn_6 : plainName "java/lang/AbstractStringBuilder" = true := by first | (simp [plainName, overriddenIn]; done) | decide +kernel
theorem pn_7 : plainName "java/lang/StringBuilder" = true := by first | (simp [plainName, overriddenIn]; done) | decide +kernel
theorem pn_8 : plainName "com/example/colophon/colophon/OpenIdsEndElementPinLaw" = true := by first | (simp [plainName, overriddenIn]; done) | decide +kernel
theorem pn_9 : plainName "com/example/colophon/colophon/OpenIds" = true := by first | (simp [plainName, overriddenIn]; done) | decide +kernel
theorem w_0 {a0 : Array Value} {Z : State} (hw : ∀ d ∈ tables_1, d.before a0 Z = true) : (Jvm.Cond.methodLink "com/example/colophon/colophon/OpenIdsEndElementPinLaw" (7 : Nat) ({ cls := "com/example/colophon/colophon/OpenIdsEndElementPinLaw", name := "mk", desc := "(II)Ljava/lang/String;" } : Jvm.MethodName)).before a0 Z = true := hw _ (List.mem_of_getElem? (i := 0) rfl)
theorem w_1 {a0 : Array Value} {Z : State} (hw : ∀ d ∈ tables_1, d.before a0 Z = true) : (Jvm.Cond.static ({ cls := "com/example/colophon/colophon/OpenIdsEndElementPinLaw", name := "mk", desc := "(II)Ljava/lang/String;" } : Jvm.MethodName)).before a0 Z = true := hw _ (List.mem_of_getElem? (i := 1) rfl)
theorem w_2 {a0 : Array Value} {Z : State} (hw : ∀ d ∈ tables_1, d.before a0 Z = true) : (Jvm.Cond.initialized "com/example/colophon/colophon/OpenIdsEndElementPinLaw").before a0 Z = true := hw _ (List.mem_of_getElem? (i := 2) rfl)
theorem w_3 {a0 : Array Value} {Z : State} (hw : ∀ d ∈ tables_1, d.before a0 Z = true) : (Jvm.Cond.code ({ cls := "com/example/colophon/colophon/OpenIdsEndElementPinLaw", name := "mk", desc := "(II)Ljava/lang/String;" } : Jvm.MethodName) method_5_code (5 : Nat) (Option.some (Jvm.ClassFile.FieldType.object "java/lang/String"))).before a0 Z = true := hw _ (List.mem_of_getElem? (i := 3) rfl)
theorem w_4 {a0 : Array Value} {Z : State} (hw : ∀ d ∈ tables_1, d.before a0 Z = true) : (Jvm.Cond.classLink "com/example/colophon/colophon/OpenIdsEndElementPinLaw" (43 : Nat) "java/lang/String").before a0 Z = true := hw _ (List.mem_of_getElem? (i := 4) rfl)
theorem w_5 {a0 : Array Value} {Z : State} (hw : ∀ d ∈ tables_1, d.before a0 Z = true) : (Jvm.Cond.instantiable "java/lang/String" (4 : Nat)).before a0 Z = true := hw _ (List.mem_of_getElem? (i := 5) rfl)
theorem w_6 {a0 : Array Value} {Z : State} (hw : ∀ d ∈ tables_1, d.before a0 Z = true) : (Jvm.Cond.initialized "java/lang/String").before a0 Z = true := hw _ (List.mem_of_getElem? (i := 6) rfl)
theorem w_7 {a0 : Array Value} {Z : State} (hw : ∀ d ∈ tables_1, d.before a0 Z = true) : (Jvm.Cond.arrayClass Jvm.ClassFile.FieldType.char).before a0 Z = true := hw _ (List.mem_of_getElem? (i := 7) rfl)
theorem w_8 {a0 : Array Value} {Z : State} (hw : ∀ d ∈ tables_1, d.before a0 Z = true) : (Jvm.Cond.methodLink "com/example/colophon/colophon/OpenIdsEndElementPinLaw" (48 : Nat) ({ cls := "java/lang/String", name := "<init>", desc := "([C)V" } : Jvm.MethodName)).before a0 Z = true := hw _ (List.mem_of_getElem? (i := 8) rfl)
theorem w_9 {a0 : Array Value} {Z : State} (hw : ∀ d ∈ tables_1, d.before a0 Z = true) : (Jvm.Cond.instanceMethod ({ cls := "java/lang/String", name := "<init>", desc := "([C)V" } : Jvm.MethodName)).before a0 Z = true := hw _ (List.mem_of_getElem? (i := 9) rfl)
theorem w_10 {a0 : Array Value} {Z : State} (hw : ∀ d ∈ tables_1, d.before a0 Z = true) : (Jvm.Cond.code ({ cls := "java/lang/String", name := "<init>", desc := "([C)V" } : Jvm.MethodName) jdk_42_method_3_code (2 : Nat) (Option.none : Option Jvm.ClassFile.FieldType)).before a0 Z = true := hw _ (List.mem_of_getElem? (i := 10) rfl)
theorem w_11 {a0 : Array Value} {Z : State} (hw : ∀ d ∈ tables_1, d.before a0 Z = true) : (Jvm.Cond.methodLink "java/lang/String" (27 : Nat) ({ cls := "java/lang/String", name := "<init>", desc := "([CIILjava/lang/Void;)V" } : Jvm.MethodName)).before a0 Z = true := hw _ (List.mem_of_getElem? (i := 11) rfl)
theorem w_12 {a0 : Array Value} {Z : State} (hw : ∀ d ∈ tables_1, d.before a0 Z = true) : (Jvm.Cond.instanceMethod ({ cls := "java/lang/String", name := "<init>", desc := "([CIILjava/lang/Void;)V" } : Jvm.MethodName)).before a0 Z = true := hw _ (List.mem_of_getElem? (i := 12) rfl)
theorem w_14 {a0 : Array Value} {Z : State} (hw : ∀ d ∈ tables_1, d.before a0 Z = true) : (Jvm.Cond.code ({ cls := "java/lang/String", name := "<init>", desc := "([CIILjava/lang/Void;)V" } : Jvm.MethodName) jdk_42_method_149_code (6 : Nat) (Option.none : Option Jvm.ClassFile.FieldType)).before a0 Z = true := hw _ (List.mem_of_getElem? (i := 14) rfl)
theorem w_15 {a0 : Array Value} {Z : State} (hw : ∀ d ∈ tables_1, d.before a0 Z = true) : (Jvm.Cond.methodLink "java/lang/String" (1 : Nat) ({ cls := "java/lang/Object", name := "<init>", desc := "()V" } : Jvm.MethodName)).before a0 Z = true := hw _ (List.mem_of_getElem? (i := 15) rfl)
theorem w_16 {a0 : Array Value} {Z : State} (hw : ∀ d ∈ tables_1, d.before a0 Z = true) : (Jvm.Cond.instanceMethod ({ cls := "java/lang/Object", name := "<init>", desc := "()V" } : Jvm.MethodName)).before a0 Z = true := hw _ (List.mem_of_getElem? (i := 16) rfl)
theorem w_17 {a0 : Array Value} {Z : State} (hw : ∀ d ∈ tables_1, d.before a0 Z = true) : (Jvm.Cond.code ({ cls := "java/lang/Object", name := "<init>", desc := "()V" } : Jvm.MethodName) object_method_1_code (1 : Nat) (Option.none : Option Jvm.ClassFile.FieldType)).before a0 Z = true := hw _ (List.mem_of_getElem? (i := 17) rfl)
theorem w_18 {a0 : Array Value} {Z : State} (hw : ∀ d ∈ tables_1, d.before a0 Z = true) : (Jvm.Cond.fieldLink "java/lang/String" (38 : Nat) "java/lang/String" "COMPACT_STRINGS" "Z").before a0 Z = true := hw _ (List.mem_of_getElem? (i := 18) rfl)
theorem w_19 {a0 : Array Value} {Z : State} (hw : ∀ d ∈ tables_1, d.before a0 Z = true) : (Jvm.Cond.methodLink "java/lang/String" (177 : Nat) ({ cls := "java/lang/StringUTF16", name := "compress", desc := "([CII)[B" } : Jvm.MethodName)).before a0 Z = true := hw _ (List.mem_of_getElem? (i := 19) rfl)
theorem w_20 {a0 : Array Value} {Z : State} (hw : ∀ d ∈ tables_1, d.before a0 Z = true) : (Jvm.Cond.static ({ cls := "java/lang/StringUTF16", name := "compress", desc := "([CII)[B" } : Jvm.MethodName)).before a0 Z = true := hw _ (List.mem_of_getElem? (i := 20) rfl)
theorem w_21 {a0 : Array Value} {Z : State} (hw : ∀ d ∈ tables_1, d.before a0 Z = true) : (Jvm.Cond.initialized "java/lang/StringUTF16").before a0 Z = true := hw _ (List.mem_of_getElem? (i := 21) rfl)
theorem w_22 {a0 : Array Value} {Z : State} (hw : ∀ d ∈ tables_1, d.before a0 Z = true) : (Jvm.Cond.code ({ cls := "java/lang/StringUTF16", name := "compress", desc := "([CII)[B" } : Jvm.MethodName) jdk_52_method_16_code (6 : Nat) (Option.some (Jvm.ClassFile.FieldType.array Jvm.ClassFile.FieldType.byte))).before a0 Z = true := hw _ (List.mem_of_getElem? (i := 22) rfl)
theorem w_23 {a0 : Array Value} {Z : State} (hw : ∀ d ∈ tables_1, d.before a0 Z = true) : (Jvm.Cond.arrayClass Jvm.ClassFile.FieldType.byte).before a0 Z = true := hw _ (List.mem_of_getElem? (i := 23) rfl)
theorem w_24 {a0 : Array Value} {Z : State} (hw : ∀ d ∈ tables_1, d.before a0 Z = true) : (Jvm.Cond.methodLink "java/lang/StringUTF16" (115 : Nat) ({ cls := "java/lang/StringUTF16", name := "compress", desc := "([CI[BII)I" } : Jvm.MethodName)).before a0 Z = true := hw _ (List.mem_of_getElem? (i := 24) rfl)
theorem w_25 {a0 : Array Value} {Z : State} (hw : ∀ d ∈ tables_1, d.before a0 Z = true) : (Jvm.Cond.static ({ cls := "java/lang/StringUTF16", name := "compress", desc := "([CI[BII)I" } : Jvm.MethodName)).before a0 Z = true := hw _ (List.mem_of_getElem? (i := 25) rfl)
theorem w_26 {a0 : Array Value} {Z : State} (hw : ∀ d ∈ tables_1, d.before a0 Z = true) : (Jvm.Cond.code ({ cls := "java/lang/StringUTF16", name := "compress", desc := "([CI[BII)I" } : Jvm.MethodName) jdk_52_method_21_code (7 : Nat) (Option.some Jvm.ClassFile.FieldType.int)).before a0 Z = true := hw _ (List.mem_of_getElem? (i := 26) rfl)
theorem w_27 {a0 : Array Value} {Z : State} (hw : ∀ d ∈ tables_1, d.before a0 Z = true) : (Jvm.Cond.methodLink "java/lang/String" (47 : Nat) ({ cls := "java/lang/StringUTF16", name := "coderFromArrayLen", desc := "([BI)B" } : Jvm.MethodName)).before a0 Z = true := hw _ (List.mem_of_getElem? (i := 27) rfl)
theorem w_28 {a0 : Array Value} {Z : State} (hw : ∀ d ∈ tables_1, d.before a0 Z = true) : (Jvm.Cond.static ({ cls := "java/lang/StringUTF16", name := "coderFromArrayLen", desc := "([BI)B" } : Jvm.MethodName)).before a0 Z = true := hw _ (List.mem_of_getElem? (i := 28) rfl)
theorem w_29 {a0 : Array Value} {Z : State} (hw : ∀ d ∈ tables_1, d.before a0 Z = true) : (Jvm.Cond.code ({ cls := "java/lang/StringUTF16", name := "coderFromArrayLen", desc := "([BI)B" } : Jvm.MethodName) jdk_52_method_15_code (2 : Nat) (Option.some Jvm.ClassFile.FieldType.byte)).before a0 Z = true := hw _ (List.mem_of_getElem? (i := 29) rfl)
theorem w_30 {a0 : Array Value} {Z : State} (hw : ∀ d ∈ tables_1, d.before a0 Z = true) : (Jvm.Cond.fieldLink "java/lang/String" (15 : Nat) "java/lang/String" "coder" "B").before a0 Z = true := hw _ (List.mem_of_getElem? (i := 30) rfl)
theorem w_31 {a0 : Array Value} {Z : State} (hw : ∀ d ∈ tables_1, d.before a0 Z = true) : (Jvm.Cond.laysFinal "java/lang/String" "java/lang/String" "coder" "B").before a0 Z = true := hw _ (List.mem_of_getElem? (i := 31) rfl)
theorem w_32 {a0 : Array Value} {Z : State} (hw : ∀ d ∈ tables_1, d.before a0 Z = true) : (Jvm.Cond.fieldLink "java/lang/String" (9 : Nat) "java/lang/String" "value" "[B").before a0 Z = true := hw _ (List.mem_of_getElem? (i := 32) rfl)
theorem w_33 {a0 : Array Value} {Z : State} (hw : ∀ d ∈ tables_1, d.before a0 Z = true) : (Jvm.Cond.laysFinal "java/lang/String" "java/lang/String" "value" "[B").before a0 Z = true := hw _ (List.mem_of_getElem? (i := 33) rfl)
theorem w_34 {a0 : Array Value} {Z : State} (hw : ∀ d ∈ tables_1, d.before a0 Z = true) : (Jvm.Cond.constant "com/example/colophon/colophon/OpenIdsEndElementPinLaw" (13 : Nat) (1073741823 : Int32)).before a0 Z = true := hw _ (List.mem_of_getElem? (i := 34) rfl)
theorem w_35 {a0 : Array Value} {Z : State} (hw : ∀ d ∈ tables_1, d.before a0 Z = true) : (Jvm.Cond.constant "com/example/colophon/colophon/OpenIdsEndElementPinLaw" (14 : Nat) (268435455 : Int32)).before a0 Z = true := hw _ (List.mem_of_getElem? (i := 35) rfl)
theorem w_36 {a0 : Array Value} {Z : State} (hw : ∀ d ∈ tables_1, d.before a0 Z = true) : (Jvm.Cond.classLink "com/example/colophon/colophon/OpenIdsEndElementPinLaw" (15 : Nat) "com/example/colophon/colophon/OpenIds").before a0 Z = true := hw _ (List.mem_of_getElem? (i := 36) rfl)
theorem w_37 {a0 : Array Value} {Z : State} (hw : ∀ d ∈ tables_1, d.before a0 Z = true) : (Jvm.Cond.instantiable "com/example/colophon/colophon/OpenIds" (5 : Nat)).before a0 Z = true := hw _ (List.mem_of_getElem? (i := 37) rfl)
theorem w_38 {a0 : Array Value} {Z : State} (hw : ∀ d ∈ tables_1, d.before a0 Z = true) : (Jvm.Cond.initialized "com/example/colophon/colophon/OpenIds").before a0 Z = true := hw _ (List.mem_of_getElem? (i := 38) rfl)
theorem w_39 {a0 : Array Value} {Z : State} (hw : ∀ d ∈ tables_1, d.before a0 Z = true) : (Jvm.Cond.methodLink "com/example/colophon/colophon/OpenIdsEndElementPinLaw" (17 : Nat) ({ cls := "com/example/colophon/colophon/OpenIds", name := "<init>", desc := "()V" } : Jvm.MethodName)).before a0 Z = true := hw _ (List.mem_of_getElem? (i := 39) rfl)
theorem w_40 {a0 : Array Value} {Z : State} (hw : ∀ d ∈ tables_1, d.before a0 Z = true) : (Jvm.Cond.instanceMethod ({ cls := "com/example/colophon/colophon/OpenIds", name := "<init>", desc := "()V" } : Jvm.MethodName)).before a0 Z = true := hw _ (List.mem_of_getElem? (i := 40) rfl)
theorem w_41 {a0 : Array Value} {Z : State} (hw : ∀ d ∈ tables_1, d.before a0 Z = true) : (Jvm.Cond.code ({ cls := "com/example/colophon/colophon/OpenIds", name := "<init>", desc := "()V" } : Jvm.MethodName) prog_28_method_1_code (1 : Nat) (Option.none : Option Jvm.ClassFile.FieldType)).before a0 Z = true := hw _ (List.mem_of_getElem? (i := 41) rfl)
theorem w_42 {a0 : Array Value} {Z : State} (hw : ∀ d ∈ tables_1, d.before a0 Z = true) : (Jvm.Cond.methodLink "com/example/colophon/colophon/OpenIds" (1 : Nat) ({ cls := "java/lang/Object", name := "<init>", desc := "()V" } : Jvm.MethodName)).before a0 Z = true := hw _ (List.mem_of_getElem? (i := 42) rfl)
theorem w_43 {a0 : Array Value} {Z : State} (hw : ∀ d ∈ tables_1, d.before a0 Z = true) : (Jvm.Cond.classLink "com/example/colophon/colophon/OpenIds" (7 : Nat) "java/lang/StringBuilder").before a0 Z = true := hw _ (List.mem_of_getElem? (i := 43) rfl)
theorem w_44 {a0 : Array Value} {Z : State} (hw : ∀ d ∈ tables_1, d.before a0 Z = true) : (Jvm.Cond.instantiable "java/lang/StringBuilder" (4 : Nat)).before a0 Z = true := hw _ (List.mem_of_getElem? (i := 44) rfl)
theorem w_45 {a0 : Array Value} {Z : State} (hw : ∀ d ∈ tables_1, d.before a0 Z = true) : (Jvm.Cond.initialized "java/lang/StringBuilder").before a0 Z = true := hw _ (List.mem_of_getElem? (i := 45) rfl)
theorem w_46 {a0 : Array Value} {Z : State} (hw : ∀ d ∈ tables_1, d.before a0 Z = true) : (Jvm.Cond.methodLink "com/example/colophon/colophon/OpenIds" (9 : Nat) ({ cls := "java/lang/StringBuilder", name := "<init>", desc := "()V" } : Jvm.MethodName)).before a0 Z = true := hw _ (List.mem_of_getElem? (i := 46) rfl)
theorem w_47 {a0 : Array Value} {Z : State} (hw : ∀ d ∈ tables_1, d.before a0 Z = true) : (Jvm.Cond.instanceMethod ({ cls := "java/lang/StringBuilder", name := "<init>", desc := "()V" } : Jvm.MethodName)).before a0 Z = true := hw _ (List.mem_of_getElem? (i := 47) rfl)
theorem w_48 {a0 : Array Value} {Z : State} (hw : ∀ d ∈ tables_1, d.before a0 Z = true) : (Jvm.Cond.code ({ cls := "java/lang/StringBuilder", name := "<init>", desc := "()V" } : Jvm.MethodName) jdk_67_method_1_code (1 : Nat) (Option.none : Option Jvm.ClassFile.FieldType)).before a0 Z = true := hw _ (List.mem_of_getElem? (i := 48) rfl)
theorem w_49 {a0 : Array Value} {Z : State} (hw : ∀ d ∈ tables_1, d.before a0 Z = true) : (Jvm.Cond.methodLink "java/lang/StringBuilder" (1 : Nat) ({ cls := "java/lang/AbstractStringBuilder", name := "<init>", desc := "(I)V" } : Jvm.MethodName)).before a0 Z = true := hw _ (List.mem_of_getElem? (i := 49) rfl)
theorem w_50 {a0 : Array Value} {Z : State} (hw : ∀ d ∈ tables_1, d.before a0 Z = true) : (Jvm.Cond.instanceMethod ({ cls := "java/lang/AbstractStringBuilder", name := "<init>", desc := "(I)V" } : Jvm.MethodName)).before a0 Z = true := hw _ (List.mem_of_getElem? (i := 50) rfl)
theorem w_53 {a0 : Array Value} {Z : State} (hw : ∀ d ∈ tables_1, d.before a0 Z = true) : (Jvm.Cond.initialized "java/lang/AbstractStringBuilder").before a0 Z = true := hw _ (List.mem_of_getElem? (i := 53) rfl)
theorem w_54 {a0 : Array Value} {Z : State} (hw : ∀ d ∈ tables_1, d.before a0 Z = true) : (Jvm.Cond.code ({ cls := "java/lang/AbstractStringBuilder", name := "<init>", desc := "(I)V" } : Jvm.MethodName) jdk_68_method_2_code (2 : Nat) (Option.none : Option Jvm.ClassFile.FieldType)).before a0 Z = true := hw _ (List.mem_of_getElem? (i := 54) rfl)
theorem w_55 {a0 : Array Value} {Z : State} (hw : ∀ d ∈ tables_1, d.before a0 Z = true) : (Jvm.Cond.methodLink "java/lang/AbstractStringBuilder" (3 : Nat) ({ cls := "java/lang/Object", name := "<init>", desc := "()V" } : Jvm.MethodName)).before a0 Z = true := hw _ (List.mem_of_getElem? (i := 55) rfl)
theorem w_56 {a0 : Array Value} {Z : State} (hw : ∀ d ∈ tables_1, d.before a0 Z = true) : (Jvm.Cond.fieldLink "java/lang/AbstractStringBuilder" (18 : Nat) "java/lang/String" "COMPACT_STRINGS" "Z").before a0 Z = true := hw _ (List.mem_of_getElem? (i := 56) rfl)
theorem w_57 {a0 : Array Value} {Z : State} (hw : ∀ d ∈ tables_1, d.before a0 Z = true) : (Jvm.Cond.fieldLink "java/lang/AbstractStringBuilder" (15 : Nat) "java/lang/AbstractStringBuilder" "value" "[B").before a0 Z = true := hw _ (List.mem_of_getElem? (i := 57) rfl)
theorem w_58 {a0 : Array Value} {Z : State} (hw : ∀ d ∈ tables_1, d.before a0 Z = true) : (Jvm.Cond.lays "java/lang/StringBuilder" "java/lang/AbstractStringBuilder" "value" "[B").before a0 Z = true := hw _ (List.mem_of_getElem? (i := 58) rfl)
theorem w_59 {a0 : Array Value} {Z : State} (hw : ∀ d ∈ tables_1, d.before a0 Z = true) : (Jvm.Cond.fieldLink "java/lang/AbstractStringBuilder" (22 : Nat) "java/lang/AbstractStringBuilder" "coder" "B").before a0 Z = true := hw _ (List.mem_of_getElem? (i := 59) rfl)
theorem w_60 {a0 : Array Value} {Z : State} (hw : ∀ d ∈ tables_1, d.before a0 Z = true) : (Jvm.Cond.lays "java/lang/StringBuilder" "java/lang/AbstractStringBuilder" "coder" "B").before a0 Z = true := hw _ (List.mem_of_getElem? (i := 60) rfl)
theorem w_61 {a0 : Array Value} {Z : State} (hw : ∀ d ∈ tables_1, d.before a0 Z = true) : (Jvm.Cond.fieldLink "com/example/colophon/colophon/OpenIds" (10 : Nat) "com/example/colophon/colophon/OpenIds" "characters" "Ljava/lang/StringBuilder;").before a0 Z = true := hw _ (List.mem_of_getElem? (i := 61) rfl)
theorem w_62 {a0 : Array Value} {Z : State} (hw : ∀ d ∈ tables_1, d.before a0 Z = true) : (Jvm.Cond.laysFinal "com/example/colophon/colophon/OpenIds" "com/example/colophon/colophon/OpenIds" "characters" "Ljava/lang/StringBuilder;").before a0 Z = true := hw _ (List.mem_of_getElem? (i := 62) rfl)
theorem w_63 {a0 : Array Value} {Z : State} (hw : ∀ d ∈ tables_1, d.before a0 Z = true) : (Jvm.Cond.arrayClass Jvm.ClassFile.FieldType.int).before a0 Z = true := hw _ (List.mem_of_getElem? (i := 63) rfl)
theorem w_64 {a0 : Array Value} {Z : State} (hw : ∀ d ∈ tables_1, d.before a0 Z = true) : (Jvm.Cond.fieldLink "com/example/colophon/colophon/OpenIds" (16 : Nat) "com/example/colophon/colophon/OpenIds" "depths" "[I").before a0 Z = true := hw _ (List.mem_of_getElem? (i := 64) rfl)
theorem w_65 {a0 : Array Value} {Z : State} (hw : ∀ d ∈ tables_1, d.before a0 Z = true) : (Jvm.Cond.lays "com/example/colophon/colophon/OpenIds" "com/example/colophon/colophon/OpenIds" "depths" "[I").before a0 Z = true := hw _ (List.mem_of_getElem? (i := 65) rfl)
theorem w_66 {a0 : Array Value} {Z : State} (hw : ∀ d ∈ tables_1, d.before a0 Z = true) : (Jvm.Cond.fieldLink "com/example/colophon/colophon/OpenIds" (20 : Nat) "com/example/colophon/colophon/OpenIds" "starts" "[I").before a0 Z = true := hw _ (List.mem_of_getElem? (i := 66) rfl)
theorem w_67 {a0 : Array Value} {Z : State} (hw : ∀ d ∈ tables_1, d.before a0 Z = true) : (Jvm.Cond.lays "com/example/colophon/colophon/OpenIds" "com/example/colophon/colophon/OpenIds" "starts" "[I").before a0 Z = true := hw _ (List.mem_of_getElem? (i := 67) rfl)
theorem w_68 {a0 : Array Value} {Z : State} (hw : ∀ d ∈ tables_1, d.before a0 Z = true) : (Jvm.Cond.methodLink "com/example/colophon/colophon/OpenIdsEndElementPinLaw" (18 : Nat) ({ cls := "com/example/colophon/colophon/OpenIds", name := "startElement", desc := "(ILjava/lang/String;)V" } : Jvm.MethodName)).before a0 Z = true := hw _ (List.mem_of_getElem? (i := 68) rfl)
theorem w_69 {a0 : Array Value} {Z : State} (hw : ∀ d ∈ tables_1, d.before a0 Z = true) : (Jvm.Cond.declares ({ cls := "com/example/colophon/colophon/OpenIds", name := "startElement", desc := "(ILjava/lang/String;)V" } : Jvm.MethodName)).before a0 Z = true := hw _ (List.mem_of_getElem? (i := 69) rfl)
theorem w_70 {a0 : Array Value} {Z : State} (hw : ∀ d ∈ tables_1, d.before a0 Z = true) : (Jvm.Cond.instanceMethod ({ cls := "com/example/colophon/colophon/OpenIds", name := "startElement", desc := "(ILjava/lang/String;)V" } : Jvm.MethodName)).before a0 Z = true := hw _ (List.mem_of_getElem? (i := 70) rfl)
theorem w_71 {a0 : Array Value} {Z : State} (hw : ∀ d ∈ tables_1, d.before a0 Z = true) : (Jvm.Cond.selects "com/example/colophon/colophon/OpenIds" ({ cls := "com/example/colophon/colophon/OpenIds", name := "startElement", desc := "(ILjava/lang/String;)V" } : Jvm.MethodName) ({ cls := "com/example/colophon/colophon/OpenIds", name := "startElement", desc := "(ILjava/lang/String;)V" } : Jvm.MethodName)).before a0 Z = true := hw _ (List.mem_of_getElem? (i := 71) rfl)
theorem w_72 {a0 : Array Value} {Z : State} (hw : ∀ d ∈ tables_1, d.before a0 Z = true) : (Jvm.Cond.code ({ cls := "com/example/colophon/colophon/OpenIds", name := "startElement", desc := "(ILjava/lang/String;)V" } : Jvm.MethodName) prog_28_method_2_code (3 : Nat) (Option.none : Option Jvm.ClassFile.FieldType)).before a0 Z = true := hw _ (List.mem_of_getElem? (i := 72) rfl)
theorem w_73 {a0 : Array Value} {Z : State} (hw : ∀ d ∈ tables_1, d.before a0 Z = true) : (Jvm.Cond.fieldLink "com/example/colophon/colophon/OpenIds" (23 : Nat) "com/example/colophon/colophon/OpenIds" "count" "I").before a0 Z = true := hw _ (List.mem_of_getElem? (i := 73) rfl)
theorem w_74 {a0 : Array Value} {Z : State} (hw : ∀ d ∈ tables_1, d.before a0 Z = true) : (Jvm.Cond.lays "com/example/colophon/colophon/OpenIds" "com/example/colophon/colophon/OpenIds" "count" "I").before a0 Z = true := hw _ (List.mem_of_getElem? (i := 74) rfl)
theorem w_75 {a0 : Array Value} {Z : State} (hw : ∀ d ∈ tables_1, d.before a0 Z = true) : (Jvm.Cond.methodLink "com/example/colophon/colophon/OpenIds" (33 : Nat) ({ cls := "java/lang/StringBuilder", name := "length", desc := "()I" } : Jvm.MethodName)).before a0 Z = true := hw _ (List.mem_of_getElem? (i := 75) rfl)
theorem w_76 {a0 : Array Value} {Z : State} (hw : ∀ d ∈ tables_1, d.before a0 Z = true) : (Jvm.Cond.declares ({ cls := "java/lang/StringBuilder", name := "length", desc := "()I" } : Jvm.MethodName)).before a0 Z = true := hw _ (List.mem_of_getElem? (i := 76) rfl)
theorem w_77 {a0 : Array Value} {Z : State} (hw : ∀ d ∈ tables_1, d.before a0 Z = true) : (Jvm.Cond.instanceMethod ({ cls := "java/lang/StringBuilder", name := "length", desc := "()I" } : Jvm.MethodName)).before a0 Z = true := hw _ (List.mem_of_getElem? (i := 77) rfl)
theorem w_78 {a0 : Array Value} {Z : State} (hw : ∀ d ∈ tables_1, d.before a0 Z = true) : (Jvm.Cond.selects "java/lang/StringBuilder" ({ cls := "java/lang/StringBuilder", name := "length", desc := "()I" } : Jvm.MethodName) ({ cls := "java/lang/StringBuilder", name := "length", desc := "()I" } : Jvm.MethodName)).before a0 Z = true := hw _ (List.mem_of_getElem? (i := 78) rfl)
theorem w_79 {a0 : Array Value} {Z : State} (hw : ∀ d ∈ tables_1, d.before a0 Z = true) : (Jvm.Cond.code ({ cls := "java/lang/StringBuilder", name := "length", desc := "()I" } : Jvm.MethodName) jdk_67_method_93_code (1 : Nat) (Option.some Jvm.ClassFile.FieldType.int)).before a0 Z = true := hw _ (List.mem_of_getElem? (i := 79) rfl)
theorem w_80 {a0 : Array Value} {Z : State} (hw : ∀ d ∈ tables_1, d.before a0 Z = true) : (Jvm.Cond.methodLink "java/lang/StringBuilder" (343 : Nat) ({ cls := "java/lang/AbstractStringBuilder", name := "length", desc := "()I" } : Jvm.MethodName)).before a0 Z = true := hw _ (List.mem_of_getElem? (i := 80) rfl)
theorem w_81 {a0 : Array Value} {Z : State} (hw : ∀ d ∈ tables_1, d.before a0 Z = true) : (Jvm.Cond.instanceMethod ({ cls := "java/lang/AbstractStringBuilder", name := "length", desc := "()I" } : Jvm.MethodName)).before a0 Z = true := hw _ (List.mem_of_getElem? (i := 81) rfl)
theorem w_82 {a0 : Array Value} {Z : State} (hw : ∀ d ∈ tables_1, d.before a0 Z = true) : (Jvm.Cond.superclass "java/lang/StringBuilder" "java/lang/AbstractStringBuilder").before a0 Z = true := hw _ (List.mem_of_getElem? (i := 82) rfl)
theorem w_84 {a0 : Array Value} {Z : State} (hw : ∀ d ∈ tables_1, d.before a0 Z = true) : (Jvm.Cond.code ({ cls := "java/lang/AbstractStringBuilder", name := "length", desc := "()I" } : Jvm.MethodName) jdk_68_method_6_code (1 : Nat) (Option.some Jvm.ClassFile.FieldType.int)).before a0 Z = true := hw _ (List.mem_of_getElem? (i := 84) rfl)
theorem w_85 {a0 : Array Value} {Z : State} (hw : ∀ d ∈ tables_1, d.before a0 Z = true) : (Jvm.Cond.fieldLink "java/lang/AbstractStringBuilder" (79 : Nat) "java/lang/AbstractStringBuilder" "count" "I").before a0 Z = true := hw _ (List.mem_of_getElem? (i := 85) rfl)
theorem w_86 {a0 : Array Value} {Z : State} (hw : ∀ d ∈ tables_1, d.before a0 Z = true) : (Jvm.Cond.lays "java/lang/StringBuilder" "java/lang/AbstractStringBuilder" "count" "I").before a0 Z = true := hw _ (List.mem_of_getElem? (i := 86) rfl)
theorem w_87 {a0 : Array Value} {Z : State} (hw : ∀ d ∈ tables_1, d.before a0 Z = true) : (Jvm.Cond.methodLink "com/example/colophon/colophon/OpenIds" (37 : Nat) ({ cls := "java/lang/StringBuilder", name := "append", desc := "(Ljava/lang/String;)Ljava/lang/StringBuilder;" } : Jvm.MethodName)).before a0 Z = true := hw _ (List.mem_of_getElem? (i := 87) rfl)
theorem w_88 {a0 : Array Value} {Z : State} (hw : ∀ d ∈ tables_1, d.before a0 Z = true) : (Jvm.Cond.declares ({ cls := "java/lang/StringBuilder", name := "append", desc := "(Ljava/lang/String;)Ljava/lang/StringBuilder;" } : Jvm.MethodName)).before a0 Z = true := hw _ (List.mem_of_getElem? (i := 88) rfl)
theorem w_89 {a0 : Array Value} {Z : State} (hw : ∀ d ∈ tables_1, d.before a0 Z = true) : (Jvm.Cond.instanceMethod ({ cls := "java/lang/StringBuilder", name := "append", desc := "(Ljava/lang/String;)Ljava/lang/StringBuilder;" } : Jvm.MethodName)).before a0 Z = true := hw _ (List.mem_of_getElem? (i := 89) rfl)
theorem w_90 {a0 : Array Value} {Z : State} (hw : ∀ d ∈ tables_1, d.before a0 Z = true) : (Jvm.Cond.selects "java/lang/StringBuilder" ({ cls := "java/lang/StringBuilder", name := "append", desc := "(Ljava/lang/String;)Ljava/lang/StringBuilder;" } : Jvm.MethodName) ({ cls := "java/lang/StringBuilder", name := "append", desc := "(Ljava/lang/String;)Ljava/lang/StringBuilder;" } : Jvm.MethodName)).before a0 Z = true := hw _ (List.mem_of_getElem? (i := 90) rfl)
theorem w_91 {a0 : Array Value} {Z : State} (hw : ∀ d ∈ tables_1, d.before a0 Z = true) : (Jvm.Cond.code ({ cls := "java/lang/StringBuilder", name := "append", desc := "(Ljava/lang/String;)Ljava/lang/StringBuilder;" } : Jvm.MethodName) jdk_67_method_7_code (2 : Nat) (Option.some (Jvm.ClassFile.FieldType.object "java/lang/StringBuilder"))).before a0 Z = true := hw _ (List.mem_of_getElem? (i := 91) rfl)
theorem w_92 {a0 : Array Value} {Z : State} (hw : ∀ d ∈ tables_1, d.before a0 Z = true) : (Jvm.Cond.methodLink "java/lang/StringBuilder" (29 : Nat) ({ cls := "java/lang/AbstractStringBuilder", name := "append", desc := "(Ljava/lang/String;)Ljava/lang/AbstractStringBuilder;" } : Jvm.MethodName)).before a0 Z = true := hw _ (List.mem_of_getElem? (i := 92) rfl)
theorem w_93 {a0 : Array Value} {Z : State} (hw : ∀ d ∈ tables_1, d.before a0 Z = true) : (Jvm.Cond.instanceMethod ({ cls := "java/lang/AbstractStringBuilder", name := "append", desc := "(Ljava/lang/String;)Ljava/lang/AbstractStringBuilder;" } : Jvm.MethodName)).before a0 Z = true := hw _ (List.mem_of_getElem? (i := 93) rfl)
theorem w_95 {a0 : Array Value} {Z : State} (hw : ∀ d ∈ tables_1, d.before a0 Z = true) : (Jvm.Cond.code ({ cls := "java/lang/AbstractStringBuilder", name := "append", desc := "(Ljava/lang/String;)Ljava/lang/AbstractStringBuilder;" } : Jvm.MethodName) jdk_68_method_22_code (3 : Nat) (Option.some (Jvm.ClassFile.FieldType.object "java/lang/AbstractStringBuilder"))).before a0 Z = true := hw _ (List.mem_of_getElem? (i := 95) rfl)
theorem w_96 {a0 : Array Value} {Z : State} (hw : ∀ d ∈ tables_1, d.before a0 Z = true) : (Jvm.Cond.methodLink "java/lang/AbstractStringBuilder" (32 : Nat) ({ cls := "java/lang/String", name := "length", desc := "()I" } : Jvm.MethodName)).before a0 Z = true := hw _ (List.mem_of_getElem? (i := 96) rfl)
theorem w_97 {a0 : Array Value} {Z : State} (hw : ∀ d ∈ tables_1, d.before a0 Z = true) : (Jvm.Cond.declares ({ cls := "java/lang/String", name := "length", desc := "()I" } : Jvm.MethodName)).before a0 Z = true := hw _ (List.mem_of_getElem? (i := 97) rfl)
theorem w_98 {a0 : Array Value} {Z : State} (hw : ∀ d ∈ tables_1, d.before a0 Z = true) : (Jvm.Cond.instanceMethod ({ cls := "java/lang/String", name := "length", desc := "()I" } : Jvm.MethodName)).before a0 Z = true := hw _ (List.mem_of_getElem? (i := 98) rfl)
theorem w_99 {a0 : Array Value} {Z : State} (hw : ∀ d ∈ tables_1, d.before a0 Z = true) : (Jvm.Cond.selects "java/lang/String" ({ cls := "java/lang/String", name := "length", desc := "()I" } : Jvm.MethodName) ({ cls := "java/lang/String", name := "length", desc := "()I" } : Jvm.MethodName)).before a0 Z = true := hw _ (List.mem_of_getElem? (i := 99) rfl)
theorem w_100 {a0 : Array Value} {Z : State} (hw : ∀ d ∈ tables_1, d.before a0 Z = true) : (Jvm.Cond.code ({ cls := "java/lang/String", name := "length", desc := "()I" } : Jvm.MethodName) jdk_42_method_54_code (1 : Nat) (Option.some Jvm.ClassFile.FieldType.int)).before a0 Z = true := hw _ (List.mem_of_getElem? (i := 100) rfl)
theorem w_101 {a0 : Array Value} {Z : State} (hw : ∀ d ∈ tables_1, d.before a0 Z = true) : (Jvm.Cond.methodLink "java/lang/String" (335 : Nat) ({ cls := "java/lang/String", name := "coder", desc := "()B" } : Jvm.MethodName)).before a0 Z = true := hw _ (List.mem_of_getElem? (i := 101) rfl)
theorem w_102 {a0 : Array Value} {Z : State} (hw : ∀ d ∈ tables_1, d.before a0 Z = true) : (Jvm.Cond.declares ({ cls := "java/lang/String", name := "coder", desc := "()B" } : Jvm.MethodName)).before a0 Z = true := hw _ (List.mem_of_getElem? (i := 102) rfl)
theorem w_103 {a0 : Array Value} {Z : State} (hw : ∀ d ∈ tables_1, d.before a0 Z = true) : (Jvm.Cond.instanceMethod ({ cls := "java/lang/String", name := "coder", desc := "()B" } : Jvm.MethodName)).before a0 Z = true := hw _ (List.mem_of_getElem? (i := 103) rfl)
theorem w_104 {a0 : Array Value} {Z : State} (hw : ∀ d ∈ tables_1, d.before a0 Z = true) : (Jvm.Cond.selects "java/lang/String" ({ cls := "java/lang/String", name := "coder", desc := "()B" } : Jvm.MethodName) ({ cls := "java/lang/String", name := "coder", desc := "()B" } : Jvm.MethodName)).before a0 Z = true := hw _ (List.mem_of_getElem? (i := 104) rfl)
theorem w_105 {a0 : Array Value} {Z : State} (hw : ∀ d ∈ tables_1, d.before a0 Z = true) : (Jvm.Cond.code ({ cls := "java/lang/String", name := "coder", desc := "()B" } : Jvm.MethodName) jdk_42_method_152_code (1 : Nat) (Option.some Jvm.ClassFile.FieldType.byte)).before a0 Z = true := hw _ (List.mem_of_getElem? (i := 105) rfl)
theorem w_106 {a0 : Array Value} {Z : State} (hw : ∀ d ∈ tables_1, d.before a0 Z = true) : (Jvm.Cond.methodLink "java/lang/AbstractStringBuilder" (100 : Nat) ({ cls := "java/lang/AbstractStringBuilder", name := "ensureCapacityInternal", desc := "(I)V" } : Jvm.MethodName)).before a0 Z = true := hw _ (List.mem_of_getElem? (i := 106) rfl)
theorem w_107 {a0 : Array Value} {Z : State} (hw : ∀ d ∈ tables_1, d.before a0 Z = true) : (Jvm.Cond.instanceMethod ({ cls := "java/lang/AbstractStringBuilder", name := "ensureCapacityInternal", desc := "(I)V" } : Jvm.MethodName)).before a0 Z = true := hw _ (List.mem_of_getElem? (i := 107) rfl)
theorem w_108 {a0 : Array Value} {Z : State} (hw : ∀ d ∈ tables_1, d.before a0 Z = true) : (Jvm.Cond.privateMethod ({ cls := "java/lang/AbstractStringBuilder", name := "ensureCapacityInternal", desc := "(I)V" } : Jvm.MethodName)).before a0 Z = true := hw _ (List.mem_of_getElem? (i := 108) rfl)
theorem w_109 {a0 : Array Value} {Z : State} (hw : ∀ d ∈ tables_1, d.before a0 Z = true) : (Jvm.Cond.selects "java/lang/StringBuilder" ({ cls := "java/lang/AbstractStringBuilder", name := "ensureCapacityInternal", desc := "(I)V" } : Jvm.MethodName) ({ cls := "java/lang/AbstractStringBuilder", name := "ensureCapacityInternal", desc := "(I)V" } : Jvm.MethodName)).before a0 Z = true := hw _ (List.mem_of_getElem? (i := 109) rfl)
theorem w_110 {a0 : Array Value} {Z : State} (hw : ∀ d ∈ tables_1, d.before a0 Z = true) : (Jvm.Cond.code ({ cls := "java/lang/AbstractStringBuilder", name := "ensureCapacityInternal", desc := "(I)V" } : Jvm.MethodName) jdk_68_method_9_code (3 : Nat) (Option.none : Option Jvm.ClassFile.FieldType)).before a0 Z = true := hw _ (List.mem_of_getElem? (i := 110) rfl)
theorem w_111 {a0 : Array Value} {Z : State} (hw : ∀ d ∈ tables_1, d.before a0 Z = true) : (Jvm.Cond.methodLink "java/lang/AbstractStringBuilder" (208 : Nat) ({ cls := "java/lang/AbstractStringBuilder", name := "putStringAt", desc := "(ILjava/lang/String;)V" } : Jvm.MethodName)).before a0 Z = true := hw _ (List.mem_of_getElem? (i := 111) rfl)
theorem w_112 {a0 : Array Value} {Z : State} (hw : ∀ d ∈ tables_1, d.before a0 Z = true) : (Jvm.Cond.instanceMethod ({ cls := "java/lang/AbstractStringBuilder", name := "putStringAt", desc := "(ILjava/lang/String;)V" } : Jvm.MethodName)).before a0 Z = true := hw _ (List.mem_of_getElem? (i := 112) rfl)
theorem w_113 {a0 : Array Value} {Z : State} (hw : ∀ d ∈ tables_1, d.before a0 Z = true) : (Jvm.Cond.privateMethod ({ cls := "java/lang/AbstractStringBuilder", name := "putStringAt", desc := "(ILjava/lang/String;)V" } : Jvm.MethodName)).before a0 Z = true := hw _ (List.mem_of_getElem? (i := 113) rfl)
theorem w_114 {a0 : Array Value} {Z : State} (hw : ∀ d ∈ tables_1, d.before a0 Z = true) : (Jvm.Cond.selects "java/lang/StringBuilder" ({ cls := "java/lang/AbstractStringBuilder", name := "putStringAt", desc := "(ILjava/lang/String;)V" } : Jvm.MethodName) ({ cls := "java/lang/AbstractStringBuilder", name := "putStringAt", desc := "(ILjava/lang/String;)V" } : Jvm.MethodName)).before a0 Z = true := hw _ (List.mem_of_getElem? (i := 114) rfl)
theorem w_115 {a0 : Array Value} {Z : State} (hw : ∀ d ∈ tables_1, d.before a0 Z = true) : (Jvm.Cond.code ({ cls := "java/lang/AbstractStringBuilder", name := "putStringAt", desc := "(ILjava/lang/String;)V" } : Jvm.MethodName) jdk_68_method_73_code (3 : Nat) (Option.none : Option Jvm.ClassFile.FieldType)).before a0 Z = true := hw _ (List.mem_of_getElem? (i := 115) rfl)
theorem w_116 {a0 : Array Value} {Z : State} (hw : ∀ d ∈ tables_1, d.before a0 Z = true) : (Jvm.Cond.methodLink "java/lang/AbstractStringBuilder" (397 : Nat) ({ cls := "java/lang/AbstractStringBuilder", name := "inflateIfNeededFor", desc := "(Ljava/lang/String;)V" } : Jvm.MethodName)).before a0 Z = true := hw _ (List.mem_of_getElem? (i := 116) rfl)
theorem w_117 {a0 : Array Value} {Z : State} (hw : ∀ d ∈ tables_1, d.before a0 Z = true) : (Jvm.Cond.instanceMethod ({ cls := "java/lang/AbstractStringBuilder", name := "inflateIfNeededFor", desc := "(Ljava/lang/String;)V" } : Jvm.MethodName)).before a0 Z = true := hw _ (List.mem_of_getElem? (i := 117) rfl)
theorem w_118 {a0 : Array Value} {Z : State} (hw : ∀ d ∈ tables_1, d.before a0 Z = true) : (Jvm.Cond.privateMethod ({ cls := "java/lang/AbstractStringBuilder", name := "inflateIfNeededFor", desc := "(Ljava/lang/String;)V" } : Jvm.MethodName)).before a0 Z = true := hw _ (List.mem_of_getElem? (i := 118) rfl)
theorem w_119 {a0 : Array Value} {Z : State} (hw : ∀ d ∈ tables_1, d.before a0 Z = true) : (Jvm.Cond.selects "java/lang/StringBuilder" ({ cls := "java/lang/AbstractStringBuilder", name := "inflateIfNeededFor", desc := "(Ljava/lang/String;)V" } : Jvm.MethodName) ({ cls := "java/lang/AbstractStringBuilder", name := "inflateIfNeededFor", desc := "(Ljava/lang/String;)V" } : Jvm.MethodName)).before a0 Z = true := hw _ (List.mem_of_getElem? (i := 119) rfl)
theorem w_120 {a0 : Array Value} {Z : State} (hw : ∀ d ∈ tables_1, d.before a0 Z = true) : (Jvm.Cond.code ({ cls := "java/lang/AbstractStringBuilder", name := "inflateIfNeededFor", desc := "(Ljava/lang/String;)V" } : Jvm.MethodName) jdk_68_method_71_code (2 : Nat) (Option.none : Option Jvm.ClassFile.FieldType)).before a0 Z = true := hw _ (List.mem_of_getElem? (i := 120) rfl)
theorem w_121 {a0 : Array Value} {Z : State} (hw : ∀ d ∈ tables_1, d.before a0 Z = true) : (Jvm.Cond.methodLink "java/lang/AbstractStringBuilder" (40 : Nat) ({ cls := "java/lang/String", name := "coder", desc := "()B" } : Jvm.MethodName)).before a0 Z = true := hw _ (List.mem_of_getElem? (i := 121) rfl)
theorem w_122 {a0 : Array Value} {Z : State} (hw : ∀ d ∈ tables_1, d.before a0 Z = true) : (Jvm.Cond.methodLink "java/lang/AbstractStringBuilder" (399 : Nat) ({ cls := "java/lang/String", name := "getBytes", desc := "([BIB)V" } : Jvm.MethodName)).before a0 Z = true := hw _ (List.mem_of_getElem? (i := 122) rfl)
theorem w_123 {a0 : Array Value} {Z : State} (hw : ∀ d ∈ tables_1, d.before a0 Z = true) : (Jvm.Cond.declares ({ cls := "java/lang/String", name := "getBytes", desc := "([BIB)V" } : Jvm.MethodName)).before a0 Z = true := hw _ (List.mem_of_getElem? (i := 123) rfl)
theorem w_124 {a0 : Array Value} {Z : State} (hw : ∀ d ∈ tables_1, d.before a0 Z = true) : (Jvm.Cond.instanceMethod ({ cls := "java/lang/String", name := "getBytes", desc := "([BIB)V" } : Jvm.MethodName)).before a0 Z = true := hw _ (List.mem_of_getElem? (i := 124) rfl)
theorem w_125 {a0 : Array Value} {Z : State} (hw : ∀ d ∈ tables_1, d.before a0 Z = true) : (Jvm.Cond.selects "java/lang/String" ({ cls := "java/lang/String", name := "getBytes", desc := "([BIB)V" } : Jvm.MethodName) ({ cls := "java/lang/String", name := "getBytes", desc := "([BIB)V" } : Jvm.MethodName)).before a0 Z = true := hw _ (List.mem_of_getElem? (i := 125) rfl)
theorem w_126 {a0 : Array Value} {Z : State} (hw : ∀ d ∈ tables_1, d.before a0 Z = true) : (Jvm.Cond.code ({ cls := "java/lang/String", name := "getBytes", desc := "([BIB)V" } : Jvm.MethodName) jdk_42_method_147_code (4 : Nat) (Option.none : Option Jvm.ClassFile.FieldType)).before a0 Z = true := hw _ (List.mem_of_getElem? (i := 126) rfl)
theorem w_127 {a0 : Array Value} {Z : State} (hw : ∀ d ∈ tables_1, d.before a0 Z = true) : (Jvm.Cond.methodLink "java/lang/String" (212 : Nat) ({ cls := "java/lang/System", name := "arraycopy", desc := "(Ljava/lang/Object;ILjava/lang/Object;II)V" } : Jvm.MethodName)).before a0 Z = true := hw _ (List.mem_of_getElem? (i := 127) rfl)
theorem w_128 {a0 : Array Value} {Z : State} (hw : ∀ d ∈ tables_1, d.before a0 Z = true) : (Jvm.Cond.static ({ cls := "java/lang/System", name := "arraycopy", desc := "(Ljava/lang/Object;ILjava/lang/Object;II)V" } : Jvm.MethodName)).before a0 Z = true := hw _ (List.mem_of_getElem? (i := 128) rfl)
theorem w_129 {a0 : Array Value} {Z : State} (hw : ∀ d ∈ tables_1, d.before a0 Z = true) : (Jvm.Cond.initialized "java/lang/System").before a0 Z = true := hw _ (List.mem_of_getElem? (i := 129) rfl)
theorem w_130 {a0 : Array Value} {Z : State} (hw : ∀ d ∈ tables_1, d.before a0 Z = true) : (Jvm.Cond.native ({ cls := "java/lang/System", name := "arraycopy", desc := "(Ljava/lang/Object;ILjava/lang/Object;II)V" } : Jvm.MethodName)).before a0 Z = true := hw _ (List.mem_of_getElem? (i := 130) rfl)
theorem w_131 {a0 : Array Value} {Z : State} (hw : ∀ d ∈ tables_1, d.before a0 Z = true) : (Jvm.Cond.fieldLink "com/example/colophon/colophon/OpenIds" (41 : Nat) "com/example/colophon/colophon/OpenIds" "innermost" "Ljava/lang/String;").before a0 Z = true := hw _ (List.mem_of_getElem? (i := 131) rfl)
theorem w_132 {a0 : Array Value} {Z : State} (hw : ∀ d ∈ tables_1, d.before a0 Z = true) : (Jvm.Cond.lays "com/example/colophon/colophon/OpenIds" "com/example/colophon/colophon/OpenIds" "innermost" "Ljava/lang/String;").before a0 Z = true := hw _ (List.mem_of_getElem? (i := 132) rfl)
theorem w_133 {a0 : Array Value} {Z : State} (hw : ∀ d ∈ tables_1, d.before a0 Z = true) : (Jvm.Cond.methodLink "com/example/colophon/colophon/OpenIdsEndElementPinLaw" (30 : Nat) ({ cls := "com/example/colophon/colophon/OpenIds", name := "endElement", desc := "(I)V" } : Jvm.MethodName)).before a0 Z = true := hw _ (List.mem_of_getElem? (i := 133) rfl)
theorem w_134 {a0 : Array Value} {Z : State} (hw : ∀ d ∈ tables_1, d.before a0 Z = true) : (Jvm.Cond.declares ({ cls := "com/example/colophon/colophon/OpenIds", name := "endElement", desc := "(I)V" } : Jvm.MethodName)).before a0 Z = true := hw _ (List.mem_of_getElem? (i := 134) rfl)
theorem w_135 {a0 : Array Value} {Z : State} (hw : ∀ d ∈ tables_1, d.before a0 Z = true) : (Jvm.Cond.instanceMethod ({ cls := "com/example/colophon/colophon/OpenIds", name := "endElement", desc := "(I)V" } : Jvm.MethodName)).before a0 Z = true := hw _ (List.mem_of_getElem? (i := 135) rfl)
theorem w_136 {a0 : Array Value} {Z : State} (hw : ∀ d ∈ tables_1, d.before a0 Z = true) : (Jvm.Cond.selects "com/example/colophon/colophon/OpenIds" ({ cls := "com/example/colophon/colophon/OpenIds", name := "endElement", desc := "(I)V" } : Jvm.MethodName) ({ cls := "com/example/colophon/colophon/OpenIds", name := "endElement", desc := "(I)V" } : Jvm.MethodName)).before a0 Z = true := hw _ (List.mem_of_getElem? (i := 136) rfl)
theorem w_137 {a0 : Array Value} {Z : State} (hw : ∀ d ∈ tables_1, d.before a0 Z = true) : (Jvm.Cond.code ({ cls := "com/example/colophon/colophon/OpenIds", name := "endElement", desc := "(I)V" } : Jvm.MethodName) prog_28_method_3_code (2 : Nat) (Option.none : Option Jvm.ClassFile.FieldType)).before a0 Z = true := hw _ (List.mem_of_getElem? (i := 137) rfl)
theorem w_138 {a0 : Array Value} {Z : State} (hw : ∀ d ∈ tables_1, d.before a0 Z = true) : (Jvm.Cond.methodLink "com/example/colophon/colophon/OpenIdsEndElementPinLaw" (34 : Nat) ({ cls := "com/example/colophon/colophon/OpenIdsEndElementPinLaw", name := "state", desc := "(Lcom/example/colophon/colophon/OpenIds;ILjava/lang/String;Ljava/lang/String;II)Z" } : Jvm.MethodName)).before a0 Z = true := hw _ (List.mem_of_getElem? (i := 138) rfl)
theorem w_139 {a0 : Array Value} {Z : State} (hw : ∀ d ∈ tables_1, d.before a0 Z = true) : (Jvm.Cond.static ({ cls := "com/example/colophon/colophon/OpenIdsEndElementPinLaw", name := "state", desc := "(Lcom/example/colophon/colophon/OpenIds;ILjava/lang/String;Ljava/lang/String;II)Z" } : Jvm.MethodName)).before a0 Z = true := hw _ (List.mem_of_getElem? (i := 139) rfl)
theorem w_140 {a0 : Array Value} {Z : State} (hw : ∀ d ∈ tables_1, d.before a0 Z = true) : (Jvm.Cond.code ({ cls := "com/example/colophon/colophon/OpenIdsEndElementPinLaw", name := "state", desc := "(Lcom/example/colophon/colophon/OpenIds;ILjava/lang/String;Ljava/lang/String;II)Z" } : Jvm.MethodName) method_3_code (9 : Nat) (Option.some Jvm.ClassFile.FieldType.boolean)).before a0 Z = true := hw _ (List.mem_of_getElem? (i := 140) rfl)
theorem w_141 {a0 : Array Value} {Z : State} (hw : ∀ d ∈ tables_1, d.before a0 Z = true) : (Jvm.Cond.methodLink "com/example/colophon/colophon/OpenIdsEndElementPinLaw" (22 : Nat) ({ cls := "com/example/colophon/colophon/OpenIds", name := "innermost", desc := "()Ljava/lang/String;" } : Jvm.MethodName)).before a0 Z = true := hw _ (List.mem_of_getElem? (i := 141) rfl)
theorem w_142 {a0 : Array Value} {Z : State} (hw : ∀ d ∈ tables_1, d.before a0 Z = true) : (Jvm.Cond.declares ({ cls := "com/example/colophon/colophon/OpenIds", name := "innermost", desc := "()Ljava/lang/String;" } : Jvm.MethodName)).before a0 Z = true := hw _ (List.mem_of_getElem? (i := 142) rfl)
theorem w_143 {a0 : Array Value} {Z : State} (hw : ∀ d ∈ tables_1, d.before a0 Z = true) : (Jvm.Cond.instanceMethod ({ cls := "com/example/colophon/colophon/OpenIds", name := "innermost", desc := "()Ljava/lang/String;" } : Jvm.MethodName)).before a0 Z = true := hw _ (List.mem_of_getElem? (i := 143) rfl)
theorem w_144 {a0 : Array Value} {Z : State} (hw : ∀ d ∈ tables_1, d.before a0 Z = true) : (Jvm.Cond.selects "com/example/colophon/colophon/OpenIds" ({ cls := "com/example/colophon/colophon/OpenIds", name := "innermost", desc := "()Ljava/lang/String;" } : Jvm.MethodName) ({ cls := "com/example/colophon/colophon/OpenIds", name := "innermost", desc := "()Ljava/lang/String;" } : Jvm.MethodName)).before a0 Z = true := hw _ (List.mem_of_getElem? (i := 144) rfl)
theorem w_145 {a0 : Array Value} {Z : State} (hw : ∀ d ∈ tables_1, d.before a0 Z = true) : (Jvm.Cond.code ({ cls := "com/example/colophon/colophon/OpenIds", name := "innermost", desc := "()Ljava/lang/String;" } : Jvm.MethodName) prog_28_method_4_code (1 : Nat) (Option.some (Jvm.ClassFile.FieldType.object "java/lang/String"))).before a0 Z = true := hw _ (List.mem_of_getElem? (i := 145) rfl)
theorem w_146 {a0 : Array Value} {Z : State} (hw : ∀ d ∈ tables_1, d.before a0 Z = true) : (Jvm.Cond.methodLink "com/example/colophon/colophon/OpenIdsEndElementPinLaw" (26 : Nat) ({ cls := "com/example/colophon/colophon/OpenIdsEndElementPinLaw", name := "same", desc := "(Ljava/lang/String;Ljava/lang/String;)Z" } : Jvm.MethodName)).before a0 Z = true := hw _ (List.mem_of_getElem? (i := 146) rfl)
theorem w_147 {a0 : Array Value} {Z : State} (hw : ∀ d ∈ tables_1, d.before a0 Z = true) : (Jvm.Cond.static ({ cls := "com/example/colophon/colophon/OpenIdsEndElementPinLaw", name := "same", desc := "(Ljava/lang/String;Ljava/lang/String;)Z" } : Jvm.MethodName)).before a0 Z = true := hw _ (List.mem_of_getElem? (i := 147) rfl)
theorem w_148 {a0 : Array Value} {Z : State} (hw : ∀ d ∈ tables_1, d.before a0 Z = true) : (Jvm.Cond.code ({ cls := "com/example/colophon/colophon/OpenIdsEndElementPinLaw", name := "same", desc := "(Ljava/lang/String;Ljava/lang/String;)Z" } : Jvm.MethodName) method_4_code (2 : Nat) (Option.some Jvm.ClassFile.FieldType.boolean)).before a0 Z = true := hw _ (List.mem_of_getElem? (i := 148) rfl)
theorem w_149 {a0 : Array Value} {Z : State} (hw : ∀ d ∈ tables_1, d.before a0 Z = true) : (Jvm.Cond.methodLink "com/example/colophon/colophon/OpenIdsEndElementPinLaw" (42 : Nat) ({ cls := "java/lang/String", name := "equals", desc := "(Ljava/lang/Object;)Z" } : Jvm.MethodName)).before a0 Z = true := hw _ (List.mem_of_getElem? (i := 149) rfl)
theorem w_150 {a0 : Array Value} {Z : State} (hw : ∀ d ∈ tables_1, d.before a0 Z = true) : (Jvm.Cond.declares ({ cls := "java/lang/String", name := "equals", desc := "(Ljava/lang/Object;)Z" } : Jvm.MethodName)).before a0 Z = true := hw _ (List.mem_of_getElem? (i := 150) rfl)
theorem w_151 {a0 : Array Value} {Z : State} (hw : ∀ d ∈ tables_1, d.before a0 Z = true) : (Jvm.Cond.instanceMethod ({ cls := "java/lang/String", name := "equals", desc := "(Ljava/lang/Object;)Z" } : Jvm.MethodName)).before a0 Z = true := hw _ (List.mem_of_getElem? (i := 151) rfl)
theorem w_152 {a0 : Array Value} {Z : State} (hw : ∀ d ∈ tables_1, d.before a0 Z = true) : (Jvm.Cond.selects "java/lang/String" ({ cls := "java/lang/String", name := "equals", desc := "(Ljava/lang/Object;)Z" } : Jvm.MethodName) ({ cls := "java/lang/String", name := "equals", desc := "(Ljava/lang/Object;)Z" } : Jvm.MethodName)).before a0 Z = true := hw _ (List.mem_of_getElem? (i := 152) rfl)
theorem w_153 {a0 : Array Value} {Z : State} (hw : ∀ d ∈ tables_1, d.before a0 Z = true) : (Jvm.Cond.code ({ cls := "java/lang/String", name := "equals", desc := "(Ljava/lang/Object;)Z" } : Jvm.MethodName) jdk_42_method_66_code (3 : Nat) (Option.some Jvm.ClassFile.FieldType.boolean)).before a0 Z = true := hw _ (List.mem_of_getElem? (i := 153) rfl)
theorem w_154 {a0 : Array Value} {Z : State} (hw : ∀ d ∈ tables_1, d.before a0 Z = true) : (Jvm.Cond.methodLink "com/example/colophon/colophon/OpenIdsEndElementPinLaw" (38 : Nat) ({ cls := "com/example/colophon/colophon/OpenIds", name := "length", desc := "()I" } : Jvm.MethodName)).before a0 Z = true := hw _ (List.mem_of_getElem? (i := 154) rfl)
theorem w_155 {a0 : Array Value} {Z : State} (hw : ∀ d ∈ tables_1, d.before a0 Z = true) : (Jvm.Cond.declares ({ cls := "com/example/colophon/colophon/OpenIds", name := "length", desc := "()I" } : Jvm.MethodName)).before a0 Z = true := hw _ (List.mem_of_getElem? (i := 155) rfl)
theorem w_156 {a0 : Array Value} {Z : State} (hw : ∀ d ∈ tables_1, d.before a0 Z = true) : (Jvm.Cond.instanceMethod ({ cls := "com/example/colophon/colophon/OpenIds", name := "length", desc := "()I" } : Jvm.MethodName)).before a0 Z = true := hw _ (List.mem_of_getElem? (i := 156) rfl)
theorem w_157 {a0 : Array Value} {Z : State} (hw : ∀ d ∈ tables_1, d.before a0 Z = true) : (Jvm.Cond.selects "com/example/colophon/colophon/OpenIds" ({ cls := "com/example/colophon/colophon/OpenIds", name := "length", desc := "()I" } : Jvm.MethodName) ({ cls := "com/example/colophon/colophon/OpenIds", name := "length", desc := "()I" } : Jvm.MethodName)).before a0 Z = true := hw _ (List.mem_of_getElem? (i := 157) rfl)
theorem w_158 {a0 : Array Value} {Z : State} (hw : ∀ d ∈ tables_1, d.before a0 Z = true) : (Jvm.Cond.code ({ cls := "com/example/colophon/colophon/OpenIds", name := "length", desc := "()I" } : Jvm.MethodName) prog_28_method_5_code (1 : Nat) (Option.some Jvm.ClassFile.FieldType.int)).before a0 Z = true := hw _ (List.mem_of_getElem? (i := 158) rfl)
theorem w_159 {a0 : Array Value} {Z : State} (hw : ∀ d ∈ tables_1, d.before a0 Z = true) : (Jvm.Cond.stringLink "java/lang/String" (7 : Nat) "").before a0 Z = true := hw _ (List.mem_of_getElem? (i := 159) rfl)
theorem w_162 {a0 : Array Value} {Z : State} (hw : ∀ d ∈ tables_1, d.before a0 Z = true) : (Jvm.Cond.methodLink "com/example/colophon/colophon/OpenIds" (45 : Nat) ({ cls := "java/lang/StringBuilder", name := "setLength", desc := "(I)V" } : Jvm.MethodName)).before a0 Z = true := hw _ (List.mem_of_getElem? (i := 162) rfl)
theorem w_163 {a0 : Array Value} {Z : State} (hw : ∀ d ∈ tables_1, d.before a0 Z = true) : (Jvm.Cond.declares ({ cls := "java/lang/StringBuilder", name := "setLength", desc := "(I)V" } : Jvm.MethodName)).before a0 Z = true := hw _ (List.mem_of_getElem? (i := 163) rfl)
theorem w_164 {a0 : Array Value} {Z : State} (hw : ∀ d ∈ tables_1, d.before a0 Z = true) : (Jvm.Cond.instanceMethod ({ cls := "java/lang/StringBuilder", name := "setLength", desc := "(I)V" } : Jvm.MethodName)).before a0 Z = true := hw _ (List.mem_of_getElem? (i := 164) rfl)
theorem w_165 {a0 : Array Value} {Z : State} (hw : ∀ d ∈ tables_1, d.before a0 Z = true) : (Jvm.Cond.selects "java/lang/StringBuilder" ({ cls := "java/lang/StringBuilder", name := "setLength", desc := "(I)V" } : Jvm.MethodName) ({ cls := "java/lang/StringBuilder", name := "setLength", desc := "(I)V" } : Jvm.MethodName)).before a0 Z = true := hw _ (List.mem_of_getElem? (i := 165) rfl)
theorem w_166 {a0 : Array Value} {Z : State} (hw : ∀ d ∈ tables_1, d.before a0 Z = true) : (Jvm.Cond.code ({ cls := "java/lang/StringBuilder", name := "setLength", desc := "(I)V" } : Jvm.MethodName) jdk_67_method_89_code (2 : Nat) (Option.none : Option Jvm.ClassFile.FieldType)).before a0 Z = true := hw _ (List.mem_of_getElem? (i := 166) rfl)
theorem w_167 {a0 : Array Value} {Z : State} (hw : ∀ d ∈ tables_1, d.before a0 Z = true) : (Jvm.Cond.methodLink "java/lang/StringBuilder" (333 : Nat) ({ cls := "java/lang/AbstractStringBuilder", name := "setLength", desc := "(I)V" } : Jvm.MethodName)).before a0 Z = true := hw _ (List.mem_of_getElem? (i := 167) rfl)
theorem w_168 {a0 : Array Value} {Z : State} (hw : ∀ d ∈ tables_1, d.before a0 Z = true) : (Jvm.Cond.instanceMethod ({ cls := "java/lang/AbstractStringBuilder", name := "setLength", desc := "(I)V" } : Jvm.MethodName)).before a0 Z = true := hw _ (List.mem_of_getElem? (i := 168) rfl)
theorem w_170 {a0 : Array Value} {Z : State} (hw : ∀ d ∈ tables_1, d.before a0 Z = true) : (Jvm.Cond.code ({ cls := "java/lang/AbstractStringBuilder", name := "setLength", desc := "(I)V" } : Jvm.MethodName) jdk_68_method_13_code (2 : Nat) (Option.none : Option Jvm.ClassFile.FieldType)).before a0 Z = true := hw _ (List.mem_of_getElem? (i := 170) rfl)
theorem w_171 {a0 : Array Value} {Z : State} (hw : ∀ d ∈ tables_1, d.before a0 Z = true) : (Jvm.Cond.methodLink "com/example/colophon/colophon/OpenIds" (49 : Nat) ({ cls := "java/lang/StringBuilder", name := "substring", desc := "(I)Ljava/lang/String;" } : Jvm.MethodName)).before a0 Z = true := hw _ (List.mem_of_getElem? (i := 171) rfl)
theorem w_172 {a0 : Array Value} {Z : State} (hw : ∀ d ∈ tables_1, d.before a0 Z = true) : (Jvm.Cond.declares ({ cls := "java/lang/StringBuilder", name := "substring", desc := "(I)Ljava/lang/String;" } : Jvm.MethodName)).before a0 Z = true := hw _ (List.mem_of_getElem? (i := 172) rfl)
theorem w_173 {a0 : Array Value} {Z : State} (hw : ∀ d ∈ tables_1, d.before a0 Z = true) : (Jvm.Cond.instanceMethod ({ cls := "java/lang/StringBuilder", name := "substring", desc := "(I)Ljava/lang/String;" } : Jvm.MethodName)).before a0 Z = true := hw _ (List.mem_of_getElem? (i := 173) rfl)
theorem w_174 {a0 : Array Value} {Z : State} (hw : ∀ d ∈ tables_1, d.before a0 Z = true) : (Jvm.Cond.selects "java/lang/StringBuilder" ({ cls := "java/lang/StringBuilder", name := "substring", desc := "(I)Ljava/lang/String;" } : Jvm.MethodName) ({ cls := "java/lang/StringBuilder", name := "substring", desc := "(I)Ljava/lang/String;" } : Jvm.MethodName)).before a0 Z = true := hw _ (List.mem_of_getElem? (i := 174) rfl)
theorem w_175 {a0 : Array Value} {Z : State} (hw : ∀ d ∈ tables_1, d.before a0 Z = true) : (Jvm.Cond.code ({ cls := "java/lang/StringBuilder", name := "substring", desc := "(I)Ljava/lang/String;" } : Jvm.MethodName) jdk_67_method_64_code (2 : Nat) (Option.some (Jvm.ClassFile.FieldType.object "java/lang/String"))).before a0 Z = true := hw _ (List.mem_of_getElem? (i := 175) rfl)
theorem w_176 {a0 : Array Value} {Z : State} (hw : ∀ d ∈ tables_1, d.before a0 Z = true) : (Jvm.Cond.methodLink "java/lang/StringBuilder" (260 : Nat) ({ cls := "java/lang/AbstractStringBuilder", name := "substring", desc := "(I)Ljava/lang/String;" } : Jvm.MethodName)).before a0 Z = true := hw _ (List.mem_of_getElem? (i := 176) rfl)
theorem w_177 {a0 : Array Value} {Z : State} (hw : ∀ d ∈ tables_1, d.before a0 Z = true) : (Jvm.Cond.instanceMethod ({ cls := "java/lang/AbstractStringBuilder", name := "substring", desc := "(I)Ljava/lang/String;" } : Jvm.MethodName)).before a0 Z = true := hw _ (List.mem_of_getElem? (i := 177) rfl)
theorem w_179 {a0 : Array Value} {Z : State} (hw : ∀ d ∈ tables_1, d.before a0 Z = true) : (Jvm.Cond.code ({ cls := "java/lang/AbstractStringBuilder", name := "substring", desc := "(I)Ljava/lang/String;" } : Jvm.MethodName) jdk_68_method_40_code (2 : Nat) (Option.some (Jvm.ClassFile.FieldType.object "java/lang/String"))).before a0 Z = true := hw _ (List.mem_of_getElem? (i := 179) rfl)
theorem w_180 {a0 : Array Value} {Z : State} (hw : ∀ d ∈ tables_1, d.before a0 Z = true) : (Jvm.Cond.methodLink "java/lang/AbstractStringBuilder" (300 : Nat) ({ cls := "java/lang/AbstractStringBuilder", name := "substring", desc := "(II)Ljava/lang/String;" } : Jvm.MethodName)).before a0 Z = true := hw _ (List.mem_of_getElem? (i := 180) rfl)
theorem w_181 {a0 : Array Value} {Z : State} (hw : ∀ d ∈ tables_1, d.before a0 Z = true) : (Jvm.Cond.declares ({ cls := "java/lang/AbstractStringBuilder", name := "substring", desc := "(II)Ljava/lang/String;" } : Jvm.MethodName)).before a0 Z = true := hw _ (List.mem_of_getElem? (i := 181) rfl)
theorem w_182 {a0 : Array Value} {Z : State} (hw : ∀ d ∈ tables_1, d.before a0 Z = true) : (Jvm.Cond.instanceMethod ({ cls := "java/lang/AbstractStringBuilder", name := "substring", desc := "(II)Ljava/lang/String;" } : Jvm.MethodName)).before a0 Z = true := hw _ (List.mem_of_getElem? (i := 182) rfl)
theorem w_183 {a0 : Array Value} {Z : State} (hw : ∀ d ∈ tables_1, d.before a0 Z = true) : (Jvm.Cond.selects "java/lang/StringBuilder" ({ cls := "java/lang/AbstractStringBuilder", name := "substring", desc := "(II)Ljava/lang/String;" } : Jvm.MethodName) ({ cls := "java/lang/StringBuilder", name := "substring", desc := "(II)Ljava/lang/String;" } : Jvm.MethodName)).before a0 Z = true := hw _ (List.mem_of_getElem? (i := 183) rfl)
theorem w_184 {a0 : Array Value} {Z : State} (hw : ∀ d ∈ tables_1, d.before a0 Z = true) : (Jvm.Cond.instanceMethod ({ cls := "java/lang/StringBuilder", name := "substring", desc := "(II)Ljava/lang/String;" } : Jvm.MethodName)).before a0 Z = true := hw _ (List.mem_of_getElem? (i := 184) rfl)
theorem w_185 {a0 : Array Value} {Z : State} (hw : ∀ d ∈ tables_1, d.before a0 Z = true) : (Jvm.Cond.code ({ cls := "java/lang/StringBuilder", name := "substring", desc := "(II)Ljava/lang/String;" } : Jvm.MethodName) jdk_67_method_62_code (3 : Nat) (Option.some (Jvm.ClassFile.FieldType.object "java/lang/String"))).before a0 Z = true := hw _ (List.mem_of_getElem? (i := 185) rfl)
theorem w_186 {a0 : Array Value} {Z : State} (hw : ∀ d ∈ tables_1, d.before a0 Z = true) : (Jvm.Cond.methodLink "java/lang/StringBuilder" (252 : Nat) ({ cls := "java/lang/AbstractStringBuilder", name := "substring", desc := "(II)Ljava/lang/String;" } : Jvm.MethodName)).before a0 Z = true := hw _ (List.mem_of_getElem? (i := 186) rfl)
theorem w_187 {a0 : Array Value} {Z : State} (hw : ∀ d ∈ tables_1, d.before a0 Z = true) : (Jvm.Cond.code ({ cls := "java/lang/AbstractStringBuilder", name := "substring", desc := "(II)Ljava/lang/String;" } : Jvm.MethodName) jdk_68_method_42_code (3 : Nat) (Option.some (Jvm.ClassFile.FieldType.object "java/lang/String"))).before a0 Z = true := hw _ (List.mem_of_getElem? (i := 187) rfl)
theorem w_188 {a0 : Array Value} {Z : State} (hw : ∀ d ∈ tables_1, d.before a0 Z = true) : (Jvm.Cond.fieldLink "java/lang/AbstractStringBuilder" (179 : Nat) "jdk/internal/util/Preconditions" "SIOOBE_FORMATTER" "Ljava/util/function/BiFunction;").before a0 Z = true := hw _ (List.mem_of_getElem? (i := 188) rfl)
theorem w_189 {a0 : Array Value} {Z : State} (hw : ∀ d ∈ tables_1, d.before a0 Z = true) : (Jvm.Cond.initialized "jdk/internal/util/Preconditions").before a0 Z = true := hw _ (List.mem_of_getElem? (i := 189) rfl)
theorem w_190 {a0 : Array Value} {Z : State} (hw : ∀ d ∈ tables_1, d.before a0 Z = true) : (Jvm.Cond.methodLink "java/lang/AbstractStringBuilder" (161 : Nat) ({ cls := "jdk/internal/util/Preconditions", name := "checkFromToIndex", desc := "(IIILjava/util/function/BiFunction;)I" } : Jvm.MethodName)).before a0 Z = true := hw _ (List.mem_of_getElem? (i := 190) rfl)
theorem w_191 {a0 : Array Value} {Z : State} (hw : ∀ d ∈ tables_1, d.before a0 Z = true) : (Jvm.Cond.static ({ cls := "jdk/internal/util/Preconditions", name := "checkFromToIndex", desc := "(IIILjava/util/function/BiFunction;)I" } : Jvm.MethodName)).before a0 Z = true := hw _ (List.mem_of_getElem? (i := 191) rfl)
theorem w_192 {a0 : Array Value} {Z : State} (hw : ∀ d ∈ tables_1, d.before a0 Z = true) : (Jvm.Cond.code ({ cls := "jdk/internal/util/Preconditions", name := "checkFromToIndex", desc := "(IIILjava/util/function/BiFunction;)I" } : Jvm.MethodName) jdk_41_method_12_code (4 : Nat) (Option.some Jvm.ClassFile.FieldType.int)).before a0 Z = true := hw _ (List.mem_of_getElem? (i := 192) rfl)
theorem w_193 {a0 : Array Value} {Z : State} (hw : ∀ d ∈ tables_1, d.before a0 Z = true) : (Jvm.Cond.methodLink "java/lang/AbstractStringBuilder" (83 : Nat) ({ cls := "java/lang/AbstractStringBuilder", name := "isLatin1", desc := "()Z" } : Jvm.MethodName)).before a0 Z = true := hw _ (List.mem_of_getElem? (i := 193) rfl)
theorem w_194 {a0 : Array Value} {Z : State} (hw : ∀ d ∈ tables_1, d.before a0 Z = true) : (Jvm.Cond.declares ({ cls := "java/lang/AbstractStringBuilder", name := "isLatin1", desc := "()Z" } : Jvm.MethodName)).before a0 Z = true := hw _ (List.mem_of_getElem? (i := 194) rfl)
theorem w_195 {a0 : Array Value} {Z : State} (hw : ∀ d ∈ tables_1, d.before a0 Z = true) : (Jvm.Cond.instanceMethod ({ cls := "java/lang/AbstractStringBuilder", name := "isLatin1", desc := "()Z" } : Jvm.MethodName)).before a0 Z = true := hw _ (List.mem_of_getElem? (i := 195) rfl)
theorem w_196 {a0 : Array Value} {Z : State} (hw : ∀ d ∈ tables_1, d.before a0 Z = true) : (Jvm.Cond.selects "java/lang/StringBuilder" ({ cls := "java/lang/AbstractStringBuilder", name := "isLatin1", desc := "()Z" } : Jvm.MethodName) ({ cls := "java/lang/AbstractStringBuilder", name := "isLatin1", desc := "()Z" } : Jvm.MethodName)).before a0 Z = true := hw _ (List.mem_of_getElem? (i := 196) rfl)
theorem w_197 {a0 : Array Value} {Z : State} (hw : ∀ d ∈ tables_1, d.before a0 Z = true) : (Jvm.Cond.code ({ cls := "java/lang/AbstractStringBuilder", name := "isLatin1", desc := "()Z" } : Jvm.MethodName) jdk_68_method_68_code (1 : Nat) (Option.some Jvm.ClassFile.FieldType.boolean)).before a0 Z = true := hw _ (List.mem_of_getElem? (i := 197) rfl)
theorem w_198 {a0 : Array Value} {Z : State} (hw : ∀ d ∈ tables_1, d.before a0 Z = true) : (Jvm.Cond.methodLink "java/lang/AbstractStringBuilder" (304 : Nat) ({ cls := "java/lang/StringLatin1", name := "newString", desc := "([BII)Ljava/lang/String;" } : Jvm.MethodName)).before a0 Z = true := hw _ (List.mem_of_getElem? (i := 198) rfl)
theorem w_199 {a0 : Array Value} {Z : State} (hw : ∀ d ∈ tables_1, d.before a0 Z = true) : (Jvm.Cond.static ({ cls := "java/lang/StringLatin1", name := "newString", desc := "([BII)Ljava/lang/String;" } : Jvm.MethodName)).before a0 Z = true := hw _ (List.mem_of_getElem? (i := 199) rfl)
theorem w_200 {a0 : Array Value} {Z : State} (hw : ∀ d ∈ tables_1, d.before a0 Z = true) : (Jvm.Cond.initialized "java/lang/StringLatin1").before a0 Z = true := hw _ (List.mem_of_getElem? (i := 200) rfl)
theorem w_201 {a0 : Array Value} {Z : State} (hw : ∀ d ∈ tables_1, d.before a0 Z = true) : (Jvm.Cond.code ({ cls := "java/lang/StringLatin1", name := "newString", desc := "([BII)Ljava/lang/String;" } : Jvm.MethodName) jdk_43_method_47_code (3 : Nat) (Option.some (Jvm.ClassFile.FieldType.object "java/lang/String"))).before a0 Z = true := hw _ (List.mem_of_getElem? (i := 201) rfl)
theorem w_202 {a0 : Array Value} {Z : State} (hw : ∀ d ∈ tables_1, d.before a0 Z = true) : (Jvm.Cond.stringLink "java/lang/StringLatin1" (151 : Nat) "").before a0 Z = true := hw _ (List.mem_of_getElem? (i := 202) rfl)
theorem w_203 {a0 : Array Value} {Z : State} (hw : ∀ d ∈ tables_1, d.before a0 Z = true) : (Jvm.Cond.classLink "java/lang/String" (10 : Nat) "java/lang/String").before a0 Z = true := hw _ (List.mem_of_getElem? (i := 203) rfl)
theorem w_204 {a0 : Array Value} {Z : State} (hw : ∀ d ∈ tables_1, d.before a0 Z = true) : (Jvm.Cond.methodLink "java/lang/String" (541 : Nat) ({ cls := "java/lang/StringLatin1", name := "equals", desc := "([B[B)Z" } : Jvm.MethodName)).before a0 Z = true := hw _ (List.mem_of_getElem? (i := 204) rfl)
theorem w_205 {a0 : Array Value} {Z : State} (hw : ∀ d ∈ tables_1, d.before a0 Z = true) : (Jvm.Cond.static ({ cls := "java/lang/StringLatin1", name := "equals", desc := "([B[B)Z" } : Jvm.MethodName)).before a0 Z = true := hw _ (List.mem_of_getElem? (i := 205) rfl)
theorem w_206 {a0 : Array Value} {Z : State} (hw : ∀ d ∈ tables_1, d.before a0 Z = true) : (Jvm.Cond.code ({ cls := "java/lang/StringLatin1", name := "equals", desc := "([B[B)Z" } : Jvm.MethodName) jdk_43_method_13_code (3 : Nat) (Option.some Jvm.ClassFile.FieldType.boolean)).before a0 Z = true := hw _ (List.mem_of_getElem? (i := 206) rfl)
theorem w_207 {a0 : Array Value} {Z : State} (hw : ∀ d ∈ tables_1, d.before a0 Z = true) : (Jvm.Cond.fieldLink "java/lang/AbstractStringBuilder" (73 : Nat) "java/lang/AbstractStringBuilder" "maybeLatin1" "Z").before a0 Z = true := hw _ (List.mem_of_getElem? (i := 207) rfl)
theorem w_208 {a0 : Array Value} {Z : State} (hw : ∀ d ∈ tables_1, d.before a0 Z = true) : (Jvm.Cond.lays "java/lang/StringBuilder" "java/lang/AbstractStringBuilder" "maybeLatin1" "Z").before a0 Z = true := hw _ (List.mem_of_getElem? (i := 208) rfl)
theorem w_209 {a0 : Array Value} {Z : State} (hw : ∀ d ∈ tables_1, d.before a0 Z = true) : (Jvm.Cond.classLink "java/lang/StringLatin1" (1 : Nat) "java/lang/String").before a0 Z = true := hw _ (List.mem_of_getElem? (i := 209) rfl)
theorem w_210 {a0 : Array Value} {Z : State} (hw : ∀ d ∈ tables_1, d.before a0 Z = true) : (Jvm.Cond.methodLink "java/lang/StringLatin1" (232 : Nat) ({ cls := "java/util/Arrays", name := "copyOfRange", desc := "([BII)[B" } : Jvm.MethodName)).before a0 Z = true := hw _ (List.mem_of_getElem? (i := 210) rfl)
theorem w_211 {a0 : Array Value} {Z : State} (hw : ∀ d ∈ tables_1, d.before a0 Z = true) : (Jvm.Cond.static ({ cls := "java/util/Arrays", name := "copyOfRange", desc := "([BII)[B" } : Jvm.MethodName)).before a0 Z = true := hw _ (List.mem_of_getElem? (i := 211) rfl)
theorem w_212 {a0 : Array Value} {Z : State} (hw : ∀ d ∈ tables_1, d.before a0 Z = true) : (Jvm.Cond.initialized "java/util/Arrays").before a0 Z = true := hw _ (List.mem_of_getElem? (i := 212) rfl)
theorem w_213 {a0 : Array Value} {Z : State} (hw : ∀ d ∈ tables_1, d.before a0 Z = true) : (Jvm.Cond.code ({ cls := "java/util/Arrays", name := "copyOfRange", desc := "([BII)[B" } : Jvm.MethodName) jdk_65_method_132_code (3 : Nat) (Option.some (Jvm.ClassFile.FieldType.array Jvm.ClassFile.FieldType.byte))).before a0 Z = true := hw _ (List.mem_of_getElem? (i := 213) rfl)
theorem w_214 {a0 : Array Value} {Z : State} (hw : ∀ d ∈ tables_1, d.before a0 Z = true) : (Jvm.Cond.methodLink "java/util/Arrays" (339 : Nat) ({ cls := "java/util/Arrays", name := "copyOfRangeByte", desc := "([BII)[B" } : Jvm.MethodName)).before a0 Z = true := hw _ (List.mem_of_getElem? (i := 214) rfl)
theorem w_215 {a0 : Array Value} {Z : State} (hw : ∀ d ∈ tables_1, d.before a0 Z = true) : (Jvm.Cond.static ({ cls := "java/util/Arrays", name := "copyOfRangeByte", desc := "([BII)[B" } : Jvm.MethodName)).before a0 Z = true := hw _ (List.mem_of_getElem? (i := 215) rfl)
theorem w_216 {a0 : Array Value} {Z : State} (hw : ∀ d ∈ tables_1, d.before a0 Z = true) : (Jvm.Cond.code ({ cls := "java/util/Arrays", name := "copyOfRangeByte", desc := "([BII)[B" } : Jvm.MethodName) jdk_65_method_133_code (5 : Nat) (Option.some (Jvm.ClassFile.FieldType.array Jvm.ClassFile.FieldType.byte))).before a0 Z = true := hw _ (List.mem_of_getElem? (i := 216) rfl)
theorem w_217 {a0 : Array Value} {Z : State} (hw : ∀ d ∈ tables_1, d.before a0 Z = true) : (Jvm.Cond.methodLink "java/util/Arrays" (343 : Nat) ({ cls := "java/util/Arrays", name := "checkLength", desc := "(II)V" } : Jvm.MethodName)).before a0 Z = true := hw _ (List.mem_of_getElem? (i := 217) rfl)
theorem w_218 {a0 : Array Value} {Z : State} (hw : ∀ d ∈ tables_1, d.before a0 Z = true) : (Jvm.Cond.static ({ cls := "java/util/Arrays", name := "checkLength", desc := "(II)V" } : Jvm.MethodName)).before a0 Z = true := hw _ (List.mem_of_getElem? (i := 218) rfl)
theorem w_219 {a0 : Array Value} {Z : State} (hw : ∀ d ∈ tables_1, d.before a0 Z = true) : (Jvm.Cond.code ({ cls := "java/util/Arrays", name := "checkLength", desc := "(II)V" } : Jvm.MethodName) jdk_65_method_131_code (2 : Nat) (Option.none : Option Jvm.ClassFile.FieldType)).before a0 Z = true := hw _ (List.mem_of_getElem? (i := 219) rfl)
theorem w_220 {a0 : Array Value} {Z : State} (hw : ∀ d ∈ tables_1, d.before a0 Z = true) : (Jvm.Cond.methodLink "java/util/Arrays" (304 : Nat) ({ cls := "java/lang/Math", name := "min", desc := "(II)I" } : Jvm.MethodName)).before a0 Z = true := hw _ (List.mem_of_getElem? (i := 220) rfl)
theorem w_221 {a0 : Array Value} {Z : State} (hw : ∀ d ∈ tables_1, d.before a0 Z = true) : (Jvm.Cond.static ({ cls := "java/lang/Math", name := "min", desc := "(II)I" } : Jvm.MethodName)).before a0 Z = true := hw _ (List.mem_of_getElem? (i := 221) rfl)
theorem w_222 {a0 : Array Value} {Z : State} (hw : ∀ d ∈ tables_1, d.before a0 Z = true) : (Jvm.Cond.initialized "java/lang/Math").before a0 Z = true := hw _ (List.mem_of_getElem? (i := 222) rfl)
theorem w_223 {a0 : Array Value} {Z : State} (hw : ∀ d ∈ tables_1, d.before a0 Z = true) : (Jvm.Cond.code ({ cls := "java/lang/Math", name := "min", desc := "(II)I" } : Jvm.MethodName) jdk_29_method_69_code (2 : Nat) (Option.some Jvm.ClassFile.FieldType.int)).before a0 Z = true := hw _ (List.mem_of_getElem? (i := 223) rfl)
theorem w_224 {a0 : Array Value} {Z : State} (hw : ∀ d ∈ tables_1, d.before a0 Z = true) : (Jvm.Cond.methodLink "java/util/Arrays" (150 : Nat) ({ cls := "java/lang/System", name := "arraycopy", desc := "(Ljava/lang/Object;ILjava/lang/Object;II)V" } : Jvm.MethodName)).before a0 Z = true := hw _ (List.mem_of_getElem? (i := 224) rfl)
theorem w_225 {a0 : Array Value} {Z : State} (hw : ∀ d ∈ tables_1, d.before a0 Z = true) : (Jvm.Cond.methodLink "java/lang/StringLatin1" (112 : Nat) ({ cls := "java/lang/String", name := "<init>", desc := "([BB)V" } : Jvm.MethodName)).before a0 Z = true := hw _ (List.mem_of_getElem? (i := 225) rfl)
theorem w_226 {a0 : Array Value} {Z : State} (hw : ∀ d ∈ tables_1, d.before a0 Z = true) : (Jvm.Cond.instanceMethod ({ cls := "java/lang/String", name := "<init>", desc := "([BB)V" } : Jvm.MethodName)).before a0 Z = true := hw _ (List.mem_of_getElem? (i := 226) rfl)
theorem w_227 {a0 : Array Value} {Z : State} (hw : ∀ d ∈ tables_1, d.before a0 Z = true) : (Jvm.Cond.code ({ cls := "java/lang/String", name := "<init>", desc := "([BB)V" } : Jvm.MethodName) jdk_42_method_151_code (3 : Nat) (Option.none : Option Jvm.ClassFile.FieldType)).before a0 Z = true := hw _ (List.mem_of_getElem? (i := 227) rfl)
theorem own_wS {a0 : Array Value} {Z : State} (hw : ∀ d ∈ tables_1, d.before a0 Z = true) : ∀ a ∈ Bundle.stringAtoms, a.before a0 Z = true := fun a ha => hw a ((by decide +kernel : ∀ a ∈ Bundle.stringAtoms, a ∈ tables_1) a ha)
theorem own_eq_int {args : Array Value} {s : State} {t : Term} {k : Int32} (h : (Jvm.Cond.eq t (Jvm.Term.int k)).value args s none s [] = some true) : t.eval args s none [] s = some (.int k) := by
  simp only [Cond.value, Term.int_eval] at h
  cases ht : t.eval args s none [] s with
  | none => simp [ht] at h
  | some v =>
    cases v <;> simp [ht] at h
    subst h; rfl
theorem own_len_start {args : Array Value} {s : State} {t : Term} {a : Addr} {c : Cell} {ty : FieldType} {k : Int32} (ev : t.eval args s none [] s = some (.ref a)) (A : Arr s s.heap a c ty) (h : (Jvm.Cond.eq (Jvm.Term.length t) (Jvm.Term.int k)).value args s none s [] = some true) : c.slots.size < 2 ^ 31 ∧ c.slots.size.toInt32 = k := by
  have q := own_eq_int h
  have e := A.fin (Vm.Alike.refl _)
  simp only [Term.eval, ev, Option.bind_eq_bind, Option.bind_some, e] at q
  split at q
  · rename_i hh
    exact ⟨hh, by simpa using q⟩
  · cases q
theorem own_elem_start {args : Array Value} {s : State} {t : Term} {a : Addr} {c : Cell} {ty : FieldType} {i : Int32} {v : Value} (ev : t.eval args s none [] s = some (.ref a)) (A : Arr s s.heap a c ty) (h : (Jvm.Term.elem t (Jvm.Term.int i)).eval args s none [] s = some v) : c.slots[i.toNatClampNeg]? = some v := by
  obtain ⟨a', j, c', e1, e2, e3, -, e5⟩ := Term.elem_spec h
  cases ev.symm.trans e1
  cases (A.fin (Vm.Alike.refl _)).symm.trans e3
  have e2' : (Jvm.Term.int i).eval args s none [] s = some (.int i) := Term.int_eval _
  cases e2'.symm.trans e2
  exact e5
theorem own_field_start {args : Array Value} {s : State} {t : Term} {a : Addr} {C n d : String} {v : Value} (ev : t.eval args s none [] s = some (.ref a)) (h : (Jvm.Term.field t C n d).eval args s none [] s = some v) : Fld s s.heap a C n d v := Fld.start (by simpa [Term.eval, ev] using h)
theorem own_ref_start {args : Array Value} {s : State} {a b : Term} {y : Value} (h : (Jvm.Cond.eq a b).value args s none s [] = some true) (hb : b.eval args s none [] s = some y) (hy : y.isRef = true) : a.eval args s none [] s = some y := Cond.eq_refs (by simp only [Cond.holds, h]; rfl) hb hy
theorem own_fits_ref {C : String} {v : Value} (h : v.isRef = true) : fits (.object C) v = true := by cases v <;> simp [Value.isRef] at h <;> rfl
theorem own_cat_ref {v : Value} (h : v.isRef = true) : v.category = 1 := by cases v <;> simp [Value.isRef] at h <;> rfl
theorem own_ins_keep {Z : State} {h h' : Heap} {a : Addr} {C : String} {ws : List Addr} (F : Ins Z h a C true) (K : Keep h h' ws) : Ins Z h' a C true := by
  obtain ⟨cell, cT, h1, h2, h3⟩ := F
  obtain ⟨c', q1, q2, q3, -⟩ := K.2.2 a cell h1
  exact ⟨c', cT, q1, h2, by rw [q2, q3]; exact h3⟩
def EL : List (String × Nat) := [("java/lang/String", 7), ("java/lang/StringLatin1", 151)]
theorem hEL {a0 : Array Value} {Z : State} (hw : ∀ d ∈ tables_1, d.before a0 Z = true) : EW Z a0 EL := (EW.cons (w_159 hw) (by decide) (EW.cons (w_202 hw) (by decide) EW.nil))
theorem own_ELsub : ∀ q ∈ EL, q ∈ consts_1 := by decide
def Gl (Z : State) (zc : Int32) (fm : Value) : Prop := (Sta Z Z.heap "java/lang/String" "COMPACT_STRINGS" "Z" (.int zc)) ∧ (¬ zc = 0) ∧ (Sta Z Z.heap "jdk/internal/util/Preconditions" "SIOOBE_FORMATTER" "Ljava/util/function/BiFunction;" fm) ∧ (fm.isRef = true)
set_option maxRecDepth 65536 in
set_option maxHeartbeats 40000000 in
theorem own_cmp5 (l : Launch) (Z : State) (a0 : Array Value) (hw : ∀ d ∈ tables_1, d.before a0 Z = true) {zc : Int32} {fm : Value}  (G : Gl Z zc fm) (n0 : Nat) (h0 : Heap) (O0 : Old Z n0 h0) (b : Nat) (d : Nat) (kb : ClassId) (kd : ClassId) (z : Int32) (cs : List Int32) (vs : List Value) (hne : b ≠ d) (hz : z = Int32.ofNat cs.length) (hn : cs.length < 2147483648) (hv : vs.length = cs.length) (gw0 : n0 ≤ d) (q0 : Arv Z h0 b kb .char z (cs.map Value.int) (.int 0)) (q1 : Arv Z h0 d kd .byte z vs (.int (0 : Int32))) :
    MetF l [] Z n0 (⟨"java/lang/StringUTF16", "compress", "([CI[BII)I"⟩ : MethodName) jdk_52_method_21_code 7 (Option.some FieldType.int) ({ frames := 0, cells := 0, slots := 0, locals := 0 } : Room) #[(.ref b), (.int (0 : Int32)), (.ref d), (.int (0 : Int32)), (.int z)] h0 [d] (fun r h' => ∃ w, r = some w ∧ w = (.int (Int32.ofNat (own_fst cs))) ∧ (Arv Z h' d kd .byte z ((cs.take (own_fst cs)).map own_lo ++ vs.drop (own_fst cs)) (.int (0 : Int32)))) := by
  refine metF (plainFor_of_name pn_0) O0 (Ls := #[.val (.ref b), .val (.int (0 : Int32)), .val (.ref d), .val (.int (0 : Int32)), .val (.int z), .unset, .unset]) (fun m => by first | (simp [entryFrame, mkF, argsToLocals, Value.category]; done) | rfl) ?_
  intro p e s m below meth c T0 X0
  have K0_h0 := Keep.refl h0 [d]
  have n0le := X0.n0le
  have ltq0 := own_n q0.lt
  have ltq1 := own_n q1.lt
  obtain ⟨G_cs, G_zc, G_fm, isref_fm⟩ := id G
  have hfl := own_fst_le cs
  have hlt0 := hn
  have loop : ∀ (n i : Nat) (T : State) (h : Heap) (L : List Loc) (s6 : Slot), n = own_fst cs - i → i ≤ own_fst cs → One s6 → WP p l e ({ frames := 0, cells := 0, slots := 0, locals := 0 } : Room) s m #[(.ref b), (.int (0 : Int32)), (.ref d), (.int (0 : Int32)), (.int z)] below meth c Z "java/lang/StringUTF16" "compress" jdk_52_method_21_code 7 (Option.some FieldType.int) n0 (fun _ => True) (fun _ _ => True) T h L 0 0 → Keep h0 h [d] → Arv Z h b kb .char z (cs.map Value.int) (.int 0) → Arv Z h d kd .byte z ((cs.take i).map own_lo ++ vs.drop i) (.int (0 : Int32)) → Run p.tables e below (PF s below n0 h0 [d] (fun r h' => ∃ w, r = some w ∧ w = (.int (Int32.ofNat (own_fst cs))) ∧ (Arv Z h' d kd .byte z ((cs.take (own_fst cs)).map own_lo ++ vs.drop (own_fst cs)) (.int (0 : Int32)))) ({ frames := 0, cells := 0, slots := 0, locals := 0 } : Room).cells ({ frames := 0, cells := 0, slots := 0, locals := 0 } : Room).slots) T (mkF m 3 #[.val (.ref b), .val (.int (Int32.ofNat i)), .val (.ref d), .val (.int (Int32.ofNat i)), .val (.int z), .val (.int (Int32.ofNat i)), s6] []) := by
    intro n
    induction n with
    | zero =>
      intro i T h L s6 hni hij h6 X K Vb Vd
      have hi : i = own_fst cs := by omega
      subst hi
      have lb := own_n Vb.lt
      have ld := own_n Vd.lt
      have lh0 := K.1
      have lb0 := own_n q0.lt
      have ld0 := own_n q1.lt
      have nle := X.n0le
      by_cases hc1 : own_fst cs < cs.length
      · have hlt := own_lt hc1 hn
        rw [← hz] at hlt
        refine k_iload X d_jdk_52_21_3 rfl (pc' := 5) rfl ?_
        refine k_iload X d_jdk_52_21_5 rfl (pc' := 7) rfl ?_
        refine k_icmpNo X d_jdk_52_21_7 (tlt hlt).2.1 (pc' := 10) rfl ?_
        refine k_aloadN X d_jdk_52_21_10 rfl rfl (pc' := 11) rfl ?_
        refine k_iloadN X d_jdk_52_21_11 rfl (pc' := 12) rfl ?_
        refine k_caload X d_jdk_52_21_12 Vb (own_nn (by omega)) hlt (v := (.int (cs.getD (own_fst cs) 0))) (own_getc' cs (by omega)) (pc' := 13) rfl ?_
        refine k_istore X d_jdk_52_21_13 (Ls' := #[.val (.ref b), .val (.int (Int32.ofNat (own_fst cs))), .val (.ref d), .val (.int (Int32.ofNat (own_fst cs))), .val (.int z), .val (.int (Int32.ofNat (own_fst cs))), .val (.int (cs.getD (own_fst cs) 0))]) (own_store h6 ⟨_, rfl⟩) (pc' := 15) rfl ?_
        refine k_iload X d_jdk_52_21_15 rfl (pc' := 17) rfl ?_
        refine k_sipush X d_jdk_52_21_17 (w := (255 : Int32)) rfl (pc' := 20) rfl ?_
        refine k_icmpNo X d_jdk_52_21_20 (tlt (own_fst_hi cs hc1)).2.2.2 (pc' := 23) rfl ?_
        refine k_iload X d_jdk_52_21_23 rfl (pc' := 25) rfl ?_
        exact k_retFI X d_jdk_52_21_25 rfl K ⟨_, rfl, rfl, Vd⟩ (by decide) (by decide)
      · have he : own_fst cs = cs.length := by omega
        have hnl : ¬ (Int32.ofNat (own_fst cs) < z) := by rw [he, ← hz]; exact Int32.lt_irrefl
        refine k_iload X d_jdk_52_21_3 rfl (pc' := 5) rfl ?_
        refine k_iload X d_jdk_52_21_5 rfl (pc' := 7) rfl ?_
        refine k_icmpYes X d_jdk_52_21_7 (flt hnl).2.1 (pc' := 44) (by decide) (by decide) ?_
        refine k_iload X d_jdk_52_21_44 rfl (pc' := 46) rfl ?_
        exact k_retFI X d_jdk_52_21_46 rfl K ⟨_, rfl, by rw [he, ← hz], Vd⟩ (by decide) (by decide)
    | succ n ih =>
      intro i T h L s6 hni hij h6 X K Vb Vd
      have hi : i < own_fst cs := by omega
      have hlt := own_lt (show i < cs.length by omega) hn
      rw [← hz] at hlt
      have hle := own_fst_lo cs i hi
      have lb := own_n Vb.lt
      have ld := own_n Vd.lt
      have lh0 := K.1
      have lb0 := own_n q0.lt
      have ld0 := own_n q1.lt
      have nle := X.n0le
      refine k_iload X d_jdk_52_21_3 rfl (pc' := 5) rfl ?_
      refine k_iload X d_jdk_52_21_5 rfl (pc' := 7) rfl ?_
      refine k_icmpNo X d_jdk_52_21_7 (tlt hlt).2.1 (pc' := 10) rfl ?_
      refine k_aloadN X d_jdk_52_21_10 rfl rfl (pc' := 11) rfl ?_
      refine k_iloadN X d_jdk_52_21_11 rfl (pc' := 12) rfl ?_
      refine k_caload X d_jdk_52_21_12 Vb (own_nn (by omega)) hlt (v := (.int (cs.getD i 0))) (own_getc' cs (by omega)) (pc' := 13) rfl ?_
      refine k_istore X d_jdk_52_21_13 (Ls' := #[.val (.ref b), .val (.int (Int32.ofNat i)), .val (.ref d), .val (.int (Int32.ofNat i)), .val (.int z), .val (.int (Int32.ofNat i)), .val (.int (cs.getD i 0))]) (own_store h6 ⟨_, rfl⟩) (pc' := 15) rfl ?_
      refine k_iload X d_jdk_52_21_15 rfl (pc' := 17) rfl ?_
      refine k_sipush X d_jdk_52_21_17 (w := (255 : Int32)) rfl (pc' := 20) rfl ?_
      refine k_icmpYes X d_jdk_52_21_20 (flt hle).2.2.2 (pc' := 26) (by decide) (by decide) ?_
      refine k_aloadN X d_jdk_52_21_26 rfl rfl (pc' := 27) rfl ?_
      refine k_iloadN X d_jdk_52_21_27 rfl (pc' := 28) rfl ?_
      refine k_iload X d_jdk_52_21_28 rfl (pc' := 30) rfl ?_
      refine k_i2b X d_jdk_52_21_30 (w := ((cs.getD i 0).toInt8.toInt32)) rfl (pc' := 31) rfl ?_
      have ge3 : n0 ≤ d := by omega
      refine k_bastore X (w := ((cs.getD i 0).toInt8.toInt32)) (i) d_jdk_52_21_31 Vd (own_nn (by omega)) hlt (own_clamp (by omega)) (by simp; omega) (own_i2b _) (vs' := ((cs.take (i + 1)).map own_lo ++ vs.drop (i + 1))) (own_turn cs vs i (by omega) hv) trivial ge3 (pc' := 32) rfl fun T2 h2 L2 X2 K2 V2 => ?_
      have sz_h2 := K2.1
      have K0_h2 : Keep h0 h2 [d] := K.trans K2 (allS (Or.inl (List.mem_of_getElem? (i := 0) rfl)) all0)
      refine k_iinc X2 d_jdk_52_21_32 rfl (w := (Int32.ofNat (i + 1))) (own_succ i) (Ls' := #[.val (.ref b), .val (.int (Int32.ofNat (i + 1))), .val (.ref d), .val (.int (Int32.ofNat i)), .val (.int z), .val (.int (Int32.ofNat i)), .val (.int (cs.getD i 0))]) rfl (pc' := 35) rfl ?_
      refine k_iinc X2 d_jdk_52_21_35 rfl (w := (Int32.ofNat (i + 1))) (own_succ i) (Ls' := #[.val (.ref b), .val (.int (Int32.ofNat (i + 1))), .val (.ref d), .val (.int (Int32.ofNat (i + 1))), .val (.int z), .val (.int (Int32.ofNat i)), .val (.int (cs.getD i 0))]) rfl (pc' := 38) rfl ?_
      refine k_iinc X2 d_jdk_52_21_38 rfl (w := (Int32.ofNat (i + 1))) (own_succ i) (Ls' := #[.val (.ref b), .val (.int (Int32.ofNat (i + 1))), .val (.ref d), .val (.int (Int32.ofNat (i + 1))), .val (.int z), .val (.int (Int32.ofNat (i + 1))), .val (.int (cs.getD i 0))]) rfl (pc' := 41) rfl ?_
      refine k_goto X2 d_jdk_52_21_41 (pc' := 3) (by decide) (by decide) ?_
      have ne4 : (b : Nat) ≠ d := own_ne (by omega)
      have c5 := (Vb.keep K2 (ninS ne4 nin0))
      exact ih (i + 1) _ _ _ _ (by omega) (by omega) (One.val rfl) X2 K0_h2 c5 V2
  refine k_iconst X0 d_jdk_52_21_0 (w := (0 : Int32)) rfl (pc' := 1) rfl ?_
  refine k_istore X0 d_jdk_52_21_1 (Ls' := #[.val (.ref b), .val (.int (0 : Int32)), .val (.ref d), .val (.int (0 : Int32)), .val (.int z), .val (.int (0 : Int32)), .unset]) rfl (pc' := 3) rfl ?_
  exact loop _ 0 _ _ _ _ rfl (by omega) One.u X0 K0_h0 q0 (by simpa using q1)
set_option maxRecDepth 65536 in
set_option maxHeartbeats 40000000 in
theorem own_cmp3L (l : Launch) (Z : State) (a0 : Array Value) (hw : ∀ d ∈ tables_1, d.before a0 Z = true) {zc : Int32} {fm : Value}  (G : Gl Z zc fm) (n0 : Nat) (h0 : Heap) (O0 : Old Z n0 h0) (b : Nat) (kb : ClassId) (z : Int32) (cs : List Int32) (hz : z = Int32.ofNat cs.length) (hn : cs.length ≤ 3) (hall : ∀ c ∈ cs, ¬ 255 < c)  (q0 : Arv Z h0 b kb .char z (cs.map Value.int) (.int 0)) :
    MetF l [] Z n0 (⟨"java/lang/StringUTF16", "compress", "([CII)[B"⟩ : MethodName) jdk_52_method_16_code 6 (Option.some (FieldType.array FieldType.byte)) ({ frames := 1, cells := 1, slots := 3, locals := 18 } : Room) #[(.ref b), (.int (0 : Int32)), (.int z)] h0 [] (fun r h' => ∃ w, r = some w ∧ ∃ (t : Nat), ∃ (kt : ClassId), w = (.ref t) ∧ (Arv Z h' t kt .byte z (own_lat cs) (.int (0 : Int32))) ∧ (h0.size ≤ t)) := by
  refine metF (plainFor_of_name pn_0) O0 (Ls := #[.val (.ref b), .val (.int (0 : Int32)), .val (.int z), .unset, .unset, .unset]) (fun m => by first | (simp [entryFrame, mkF, argsToLocals, Value.category]; done) | rfl) ?_
  intro p e s m below meth c T0 X0
  have K0_h0 := Keep.refl h0 []
  have n0le := X0.n0le
  have ltq0 := own_n q0.lt
  obtain ⟨G_cs, G_zc, G_fm, isref_fm⟩ := id G
  have hf := own_fst_all cs hall
  have hnz : ¬ z < 0 := by rw [hz]; exact own_nn (by omega)
  have hcl : z.toNatClampNeg = cs.length := by rw [hz]; exact own_clamp (by omega)
  refine k_iloadN X0 d_jdk_52_16_0 rfl (pc' := 1) rfl ?_
  refine k_newP X0 d_jdk_52_16_1 (w_23 hw) hnz (cap := 3) (by omega) (by decide) (by decide) (by decide) (pc' := 3) rfl fun T6 h6 b6 k6 g6 X6 K6 V6 S6 lt6 ge6 => ?_
  have sz_h6 := K6.1
  have K0_h6 : Keep h0 h6 [] := K0_h0.trans K6 all0
  have Vp : Arv Z h6 b6 k6 .byte z (List.replicate cs.length (.int (0 : Int32))) (.int (0 : Int32)) := Arv.pad V6 (fun i => by simpa using pad_rep [] (.int (0 : Int32)) cs.length i)
  refine k_astoreN X6 d_jdk_52_16_3 rfl (Ls' := #[.val (.ref b), .val (.int (0 : Int32)), .val (.int z), .val (.ref b6), .unset, .unset]) rfl (pc' := 4) rfl ?_
  refine k_aloadN X6 d_jdk_52_16_4 rfl rfl (pc' := 5) rfl ?_
  refine k_iloadN X6 d_jdk_52_16_5 rfl (pc' := 6) rfl ?_
  refine k_aloadN X6 d_jdk_52_16_6 rfl rfl (pc' := 7) rfl ?_
  refine k_iconst X6 d_jdk_52_16_7 (w := (0 : Int32)) rfl (pc' := 8) rfl ?_
  refine k_iloadN X6 d_jdk_52_16_8 rfl (pc' := 9) rfl ?_
  have c7 := (q0.keep K6 nin0)
  have ge8 : n0 ≤ b6 := by omega
  refine k_callSVF X6 (y := (⟨"java/lang/StringUTF16", "compress", "([CI[BII)I"⟩ : MethodName)) d_jdk_52_16_9 (w_24 hw) (w_25 hw) (w_21 hw) (w_26 hw) (by decide) (argsL := [(.ref b), (.int (0 : Int32)), (.ref b6), (.int (0 : Int32)), (.int z)]) (rest := []) (own_cmp5 l Z a0 hw G n0 h6 X6.old b b6 kb k6 z cs (List.replicate cs.length (.int (0 : Int32))) (by omega) hz (by omega) (by simp) ge8 c7 Vp) rfl pd_0 rfl rfl (by decide) (W := 0) (Nat.le_of_eq rfl) (by decide) (by decide) (by decide) (allS ⟨trivial, ge8⟩ all0) (pc' := 12) rfl ?_
  rintro _ T9 h9 L9 X9 K9 ⟨rfl, q9_0⟩
  have sz_h9 := K9.1
  have od11 : h0.size ≤ b6 := by omega
  have K0_h9 : Keep h0 h9 [] := K0_h6.trans K9 (allS (Or.inr od11) all0)
  have lt9_0 := own_n q9_0.lt
  refine k_istore X9 d_jdk_52_16_12 (Ls' := #[.val (.ref b), .val (.int (0 : Int32)), .val (.int z), .val (.ref b6), .val (.int (Int32.ofNat (own_fst cs))), .unset]) rfl (pc' := 14) rfl ?_
  refine k_iload X9 d_jdk_52_16_14 rfl (pc' := 16) rfl ?_
  refine k_iloadN X9 d_jdk_52_16_16 rfl (pc' := 17) rfl ?_
  have hz2 : Int32.ofNat (own_fst cs) = z := by rw [hf, ← hz]
  refine k_icmpYes X9 d_jdk_52_16_17 (teq hz2).1 (pc' := 57) (by decide) (by decide) ?_
  refine k_aloadN X9 d_jdk_52_16_57 rfl rfl (pc' := 58) rfl ?_
  have Vl : Arv Z h9 b6 k6 .byte z (own_lat cs) (.int (0 : Int32)) := by simpa [hf, own_lat] using q9_0
  exact k_retFA X9 d_jdk_52_16_58 rfl rfl rfl rfl K0_h9 ⟨_, rfl, _, _, rfl, Vl, by omega⟩ (by decide) (by decide)
set_option maxRecDepth 65536 in
set_option maxHeartbeats 40000000 in
theorem own_codL (l : Launch) (Z : State) (a0 : Array Value) (hw : ∀ d ∈ tables_1, d.before a0 Z = true) {zc : Int32} {fm : Value}  (G : Gl Z zc fm) (n0 : Nat) (h0 : Heap) (O0 : Old Z n0 h0) (d : Nat) (k : ClassId) (z : Int32) (bs : List Value) (dv : Value)  (q0 : Arv Z h0 d k .byte z bs dv) :
    MetF l [] Z n0 (⟨"java/lang/StringUTF16", "coderFromArrayLen", "([BI)B"⟩ : MethodName) jdk_52_method_15_code 2 (Option.some FieldType.byte) ({ frames := 0, cells := 0, slots := 0, locals := 0 } : Room) #[(.ref d), (.int z)] h0 [] (fun r h' => ∃ w, r = some w ∧ w = (.int (0 : Int32)) ∧ True) := by
  refine metF (plainFor_of_name pn_0) O0 (Ls := #[.val (.ref d), .val (.int z)]) (fun m => by first | (simp [entryFrame, mkF, argsToLocals, Value.category]; done) | rfl) ?_
  intro p e s m below meth c T0 X0
  have K0_h0 := Keep.refl h0 []
  have n0le := X0.n0le
  have ltq0 := own_n q0.lt
  obtain ⟨G_cs, G_zc, G_fm, isref_fm⟩ := id G
  refine k_iloadN X0 d_jdk_52_15_0 rfl (pc' := 1) rfl ?_
  refine k_aloadN X0 d_jdk_52_15_1 rfl rfl (pc' := 2) rfl ?_
  refine k_arlen X0 d_jdk_52_15_2 q0 (pc' := 3) rfl ?_
  refine k_isub X0 d_jdk_52_15_3 (w := (0 : Int32)) (Int32.sub_self z) (pc' := 4) rfl ?_
  refine k_bipush X0 d_jdk_52_15_4 (w := (31 : Int32)) rfl (pc' := 6) rfl ?_
  refine k_iushr X0 d_jdk_52_15_6 (w := (0 : Int32)) (by decide) (pc' := 7) rfl ?_
  refine k_i2b X0 d_jdk_52_15_7 (w := (0 : Int32)) (by decide) (pc' := 8) rfl ?_
  exact k_retFN X0 (w := (0 : Int32)) d_jdk_52_15_8 (t := .byte) rfl (by simp) rfl K0_h0 ⟨_, rfl, rfl, trivial⟩ (by decide) (by decide)
set_option maxRecDepth 65536 in
set_option maxHeartbeats 40000000 in
theorem own_init4L (l : Launch) (Z : State) (a0 : Array Value) (hw : ∀ d ∈ tables_1, d.before a0 Z = true) {zc : Int32} {fm : Value}  (G : Gl Z zc fm) (n0 : Nat) (h0 : Heap) (O0 : Old Z n0 h0) (a : Nat) (b : Nat) (kb : ClassId) (z : Int32) (cs : List Int32) (hz : z = Int32.ofNat cs.length) (h1 : 0 < cs.length) (hn : cs.length ≤ 3) (hall : ∀ c ∈ cs, ¬ 255 < c) (gw0 : n0 ≤ a) (q0 : Exa Z h0 a "java/lang/String") (q1 : Fld Z h0 a "java/lang/String" "value" "[B" .null) (q2 : Fld Z h0 a "java/lang/String" "coder" "B" (.int (0 : Int32))) (q3 : Arv Z h0 b kb .char z (cs.map Value.int) (.int 0)) :
    MetF l [] Z n0 (⟨"java/lang/String", "<init>", "([CIILjava/lang/Void;)V"⟩ : MethodName) jdk_42_method_149_code 6 (Option.none : Option FieldType) ({ frames := 2, cells := 1, slots := 3, locals := 35 } : Room) #[(.ref a), (.ref b), (.int (0 : Int32)), (.int z), .null] h0 [a] (fun r h' => r = none ∧ ∃ (t : Nat), ∃ (kt : ClassId), (Exa Z h' a "java/lang/String") ∧ (Fld Z h' a "java/lang/String" "coder" "B" (.int (0 : Int32))) ∧ (Fld Z h' a "java/lang/String" "value" "[B" (.ref t)) ∧ (Arv Z h' t kt .byte z (own_lat cs) (.int (0 : Int32))) ∧ (h0.size ≤ t)) := by
  refine metF (plainFor_of_name pn_1) O0 (Ls := #[.val (.ref a), .val (.ref b), .val (.int (0 : Int32)), .val (.int z), .val .null, .unset]) (fun m => by first | (simp [entryFrame, mkF, argsToLocals, Value.category]; done) | rfl) ?_
  intro p e s m below meth c T0 X0
  have K0_h0 := Keep.refl h0 [a]
  have n0le := X0.n0le
  have ltq0 := own_n q0.lt
  have ltq1 := own_n q1.lt
  have ltq2 := own_n q2.lt
  have ltq3 := own_n q3.lt
  obtain ⟨G_cs, G_zc, G_fm, isref_fm⟩ := id G
  have hnz0 : ¬ z = 0 := by rw [hz]; exact own_nz h1 (by omega)
  refine k_aloadN X0 d_jdk_42_149_0 rfl rfl (pc' := 1) rfl ?_
  refine k_initO X0 d_jdk_42_149_1 (w_15 hw) (w_16 hw) (w_17 hw) rfl (by decide) (W := 0) (Nat.le_of_eq rfl) (by decide) (pc' := 4) rfl fun T12 X13 => ?_
  refine k_iloadN X13 d_jdk_42_149_4 rfl (pc' := 5) rfl ?_
  refine k_ifYes X13 d_jdk_42_149_5 ((if0 _ _).trans (feq hnz0).2) (pc' := 27) (by decide) (by decide) ?_
  refine k_getS X13 d_jdk_42_149_27 (host := "") (Or.inl (w_18 hw)) Via.refl (G_cs.ext X13.old.2) (pc' := 30) rfl fun T14 X15 => ?_
  refine k_ifNo X15 d_jdk_42_149_30 ((if0 _ _).trans (feq G_zc).1) (pc' := 33) rfl ?_
  refine k_aloadN X15 d_jdk_42_149_33 rfl rfl (pc' := 34) rfl ?_
  refine k_iloadN X15 d_jdk_42_149_34 rfl (pc' := 35) rfl ?_
  refine k_iloadN X15 d_jdk_42_149_35 rfl (pc' := 36) rfl ?_
  refine k_callSVF X15 (y := (⟨"java/lang/StringUTF16", "compress", "([CII)[B"⟩ : MethodName)) d_jdk_42_149_36 (w_19 hw) (w_20 hw) (w_21 hw) (w_22 hw) (by decide) (argsL := [(.ref b), (.int (0 : Int32)), (.int z)]) (rest := []) (own_cmp3L l Z a0 hw G n0 h0 X15.old b kb z cs hz (by omega) hall q3) rfl pd_1 rfl rfl (by decide) (W := 0) (Nat.le_of_eq rfl) (by decide) (by decide) (by decide) all0 (pc' := 39) rfl ?_
  rintro _ T18 h18 L18 X18 K18 ⟨t_16, kt_17, rfl, q18_0, q18_1⟩
  have sz_h18 := K18.1
  have K0_h18 : Keep h0 h18 [a] := K0_h0.trans K18 all0
  have lt18_0 := own_n q18_0.lt
  refine k_astore X18 d_jdk_42_149_39 rfl (Ls' := #[.val (.ref a), .val (.ref b), .val (.int (0 : Int32)), .val (.int z), .val .null, .val (.ref t_16)]) rfl (pc' := 41) rfl ?_
  refine k_aloadN X18 d_jdk_42_149_41 rfl rfl (pc' := 42) rfl ?_
  refine k_aload X18 d_jdk_42_149_42 rfl rfl (pc' := 44) rfl ?_
  refine k_iloadN X18 d_jdk_42_149_44 rfl (pc' := 45) rfl ?_
  refine k_callSVF X18 (y := (⟨"java/lang/StringUTF16", "coderFromArrayLen", "([BI)B"⟩ : MethodName)) d_jdk_42_149_45 (w_27 hw) (w_28 hw) (w_21 hw) (w_29 hw) (by decide) (argsL := [(.ref t_16), (.int z)]) (rest := [(.ref a)]) (own_codL l Z a0 hw G n0 h18 X18.old t_16 kt_17 z (own_lat cs) (.int (0 : Int32)) q18_0) rfl pd_2 rfl rfl (by decide) (W := 1) (Nat.le_of_eq rfl) (by decide) (by decide) (by decide) all0 (pc' := 48) rfl ?_
  rintro _ T20 h20 L20 X20 K20 ⟨rfl, -⟩
  have sz_h20 := K20.1
  have K0_h20 : Keep h0 h20 [a] := K0_h18.trans K20 all0
  have c22 := ((q2.keep K18 nin0).keep K20 nin0)
  have c23 := ((q0.keep K18).keep K20)
  have ge25 : n0 ≤ a := by omega
  refine k_putF X20 d_jdk_42_149_48 (host := "") (Or.inl (w_30 hw)) Via.refl c22 c23 (Or.inr ⟨(w_31 hw), rfl, X20.hnm⟩) (w_5 hw) (ty := .byte) (by decide) rfl rfl trivial ge25 (pc' := 51) rfl fun T24 h24 L24 X24 W24 K24 => ?_
  have sz_h24 := K24.1
  have K0_h24 : Keep h0 h24 [a] := K0_h20.trans K24 (allS (Or.inl (List.mem_of_getElem? (i := 0) rfl)) all0)
  have F24 := c22.same W24
  refine k_aloadN X24 d_jdk_42_149_51 rfl rfl (pc' := 52) rfl ?_
  refine k_aload X24 d_jdk_42_149_52 rfl rfl (pc' := 54) rfl ?_
  have c26 := (((q1.keep K18 nin0).keep K20 nin0).other W24 (Or.inr (slot_ne (Or.inr (w_33 hw)) (Or.inr (w_31 hw)) (by decide) (t := (.array .byte)) (t' := .byte) (by decide) (by decide))))
  have c27 := (c23.keep K24)
  refine k_putF X24 d_jdk_42_149_54 (host := "") (Or.inl (w_32 hw)) Via.refl c26 c27 (Or.inr ⟨(w_33 hw), rfl, X24.hnm⟩) (w_5 hw) (ty := (.array .byte)) (by decide) rfl rfl trivial ge25 (pc' := 57) rfl fun T28 h28 L28 X28 W28 K28 => ?_
  have sz_h28 := K28.1
  have K0_h28 : Keep h0 h28 [a] := K0_h24.trans K28 (allS (Or.inl (List.mem_of_getElem? (i := 0) rfl)) all0)
  have F28 := c26.same W28
  have c29 := (c27.keep K28)
  have c30 := (F24.other W28 (Or.inr (slot_ne (Or.inr (w_31 hw)) (Or.inr (w_33 hw)) (by decide) (t := .byte) (t' := (.array .byte)) (by decide) (by decide))))
  have ne31 : (t_16 : Nat) ≠ a := own_ne (by omega)
  have c32 := (((q18_0.keep K20 nin0).keep K24 (ninS ne31 nin0)).keep K28 (ninS ne31 nin0))
  exact k_retFV X28 d_jdk_42_149_57 rfl K0_h28 ⟨rfl, _, _, c29, c30, F28, c32, by omega⟩ (by decide) (by decide)
set_option maxRecDepth 65536 in
set_option maxHeartbeats 40000000 in
theorem own_initL (l : Launch) (Z : State) (a0 : Array Value) (hw : ∀ d ∈ tables_1, d.before a0 Z = true) {zc : Int32} {fm : Value}  (G : Gl Z zc fm) (n0 : Nat) (h0 : Heap) (O0 : Old Z n0 h0) (a : Nat) (b : Nat) (kb : ClassId) (z : Int32) (vs : List Value) (cs : List Int32) (hvs : vs = cs.map Value.int) (hz : z = Int32.ofNat cs.length) (h1 : 0 < cs.length) (hn : cs.length ≤ 3) (hall : ∀ c ∈ cs, ¬ 255 < c) (gw0 : n0 ≤ a) (q0 : Exa Z h0 a "java/lang/String") (q1 : Fld Z h0 a "java/lang/String" "value" "[B" .null) (q2 : Fld Z h0 a "java/lang/String" "coder" "B" (.int (0 : Int32))) (q3 : Arv Z h0 b kb .char z vs (.int (0 : Int32))) :
    MetF l [] Z n0 (⟨"java/lang/String", "<init>", "([C)V"⟩ : MethodName) jdk_42_method_3_code 2 (Option.none : Option FieldType) ({ frames := 3, cells := 1, slots := 3, locals := 52 } : Room) #[(.ref a), (.ref b)] h0 [a] (fun r h' => r = none ∧ ∃ (t : Nat), ∃ (kt : ClassId), (Exa Z h' a "java/lang/String") ∧ (Fld Z h' a "java/lang/String" "coder" "B" (.int (0 : Int32))) ∧ (Fld Z h' a "java/lang/String" "value" "[B" (.ref t)) ∧ (Arv Z h' t kt .byte z (own_lat cs) (.int (0 : Int32))) ∧ (h0.size ≤ t)) := by
  subst hvs
  refine metF (plainFor_of_name pn_1) O0 (Ls := #[.val (.ref a), .val (.ref b)]) (fun m => by first | (simp [entryFrame, mkF, argsToLocals, Value.category]; done) | rfl) ?_
  intro p e s m below meth c T0 X0
  have K0_h0 := Keep.refl h0 [a]
  have n0le := X0.n0le
  have ltq0 := own_n q0.lt
  have ltq1 := own_n q1.lt
  have ltq2 := own_n q2.lt
  have ltq3 := own_n q3.lt
  obtain ⟨G_cs, G_zc, G_fm, isref_fm⟩ := id G
  refine k_aloadN X0 d_jdk_42_3_0 rfl rfl (pc' := 1) rfl ?_
  refine k_aloadN X0 d_jdk_42_3_1 rfl rfl (pc' := 2) rfl ?_
  refine k_iconst X0 d_jdk_42_3_2 (w := (0 : Int32)) rfl (pc' := 3) rfl ?_
  refine k_aloadN X0 d_jdk_42_3_3 rfl rfl (pc' := 4) rfl ?_
  refine k_arlen X0 d_jdk_42_3_4 q3 (pc' := 5) rfl ?_
  refine k_aconstNull X0 d_jdk_42_3_5 (pc' := 6) rfl ?_
  have ge33 : n0 ≤ a := by omega
  refine k_callPNF X0 (y := (⟨"java/lang/String", "<init>", "([CIILjava/lang/Void;)V"⟩ : MethodName)) d_jdk_42_3_6 (w_11 hw) (w_12 hw) (w_6 hw) (w_14 hw) (by decide) rfl rfl (argsL := [(.ref b), (.int (0 : Int32)), (.int z), .null]) (rest := []) (own_init4L l Z a0 hw G n0 h0 X0.old a b kb z cs hz h1 hn hall ge33 q0 q1 q2 q3) rfl pd_3 rfl rfl (by decide) (W := 0) (Nat.le_of_eq rfl) (by decide) (by decide) (by decide) (allS ⟨trivial, ge33⟩ all0) (pc' := 9) rfl ?_
  rintro T36 h36 L36 X36 K36 ⟨t_34, kt_35, q36_0, q36_1, q36_2, q36_3, q36_4⟩
  have sz_h36 := K36.1
  have K0_h36 : Keep h0 h36 [a] := K0_h0.trans K36 (allS (Or.inl (List.mem_of_getElem? (i := 0) rfl)) all0)
  have lt36_0 := own_n q36_0.lt
  have lt36_1 := own_n q36_1.lt
  have lt36_2 := own_n q36_2.lt
  have lt36_3 := own_n q36_3.lt
  exact k_retFV X36 d_jdk_42_3_9 rfl K0_h36 ⟨rfl, _, _, q36_0, q36_1, q36_2, q36_3, by omega⟩ (by decide) (by decide)
set_option maxRecDepth 65536 in
set_option maxHeartbeats 40000000 in
theorem own_init4E (l : Launch) (Z : State) (a0 : Array Value) (hw : ∀ d ∈ tables_1, d.before a0 Z = true) {zc : Int32} {fm : Value}  (G : Gl Z zc fm) (n0 : Nat) (h0 : Heap) (O0 : Old Z n0 h0) (a : Nat) (b : Nat) (gw0 : n0 ≤ a) (q0 : Exa Z h0 a "java/lang/String") (q1 : Fld Z h0 a "java/lang/String" "value" "[B" .null) (q2 : Fld Z h0 a "java/lang/String" "coder" "B" (.int (0 : Int32))) :
    MetH l [] Z EL n0 (⟨"java/lang/String", "<init>", "([CIILjava/lang/Void;)V"⟩ : MethodName) jdk_42_method_149_code 6 (Option.none : Option FieldType) ({ frames := 1, cells := 4, slots := 8, locals := 12 } : Room) #[(.ref a), (.ref b), (.int (0 : Int32)), (.int (0 : Int32)), .null] h0 [a] (fun r v' h' => r = none ∧ ∃ (t : Nat), ∃ (kt : ClassId), (Exa Z h' a "java/lang/String") ∧ (Fld Z h' a "java/lang/String" "coder" "B" (.int (0 : Int32))) ∧ (Fld Z h' a "java/lang/String" "value" "[B" (.ref t)) ∧ (Arv Z h' t kt .byte (0 : Int32) [] (.int (0 : Int32)))) := by
  refine metH (hEL hw) (plainFor_of_name pn_1) O0 (Ls := #[.val (.ref a), .val (.ref b), .val (.int (0 : Int32)), .val (.int (0 : Int32)), .val .null, .unset]) (fun m => by first | (simp [entryFrame, mkF, argsToLocals, Value.category]; done) | rfl) ?_
  intro p e s m below meth c T0 v0 X0 hSf
  have K0_h0 := Keep.refl h0 [a]
  have n0le := X0.n0le
  have ltq0 := own_n q0.lt
  have ltq1 := own_n q1.lt
  have ltq2 := own_n q2.lt
  have sf_0 := hSf a (List.mem_of_getElem? (i := 0) rfl)
  obtain ⟨G_cs, G_zc, G_fm, isref_fm⟩ := id G
  refine k_aloadN X0 d_jdk_42_149_0 rfl rfl (pc' := 1) rfl ?_
  refine k_initO X0 d_jdk_42_149_1 (w_15 hw) (w_16 hw) (w_17 hw) rfl (by decide) (W := 0) (Nat.le_of_eq rfl) (by decide) (pc' := 4) rfl fun T37 X38 => ?_
  refine k_iloadN X38 d_jdk_42_149_4 rfl (pc' := 5) rfl ?_
  refine k_ifNo X38 d_jdk_42_149_5 (by decide) (pc' := 8) rfl ?_
  refine k_aloadN X38 d_jdk_42_149_8 rfl rfl (pc' := 9) rfl ?_
  refine k_ldcR X38 d_jdk_42_149_9 (w_159 hw) (own_wS hw) (List.mem_of_getElem? (i := 0) rfl) (vs := []) (z := (0 : Int32)) (by decide) (by decide) rfl (n := 0) (by decide) (by decide) (by decide) (by decide) (pc' := 11) rfl fun s39 bb39 kb39 v39 T39 h39 X39 K39 C39 E39 Fc39 Fv39 V39 nq39 => ?_
  have sz_h39 := K39.1
  have K0_h39 : Keep h0 h39 [a] := K0_h0.trans K39 all0
  have lt39 := own_n E39.lt
  have ltb39 := own_n V39.lt
  have c40 := (C39.safe (own_n (by omega)) sf_0)
  have na := nq39 a c40
  have na1 := own_ni na.1
  have na2 := own_ni na.2
  refine k_getF X39 d_jdk_42_149_11 (host := "") (Or.inl (w_32 hw)) Via.refl Fv39 (pc' := 14) rfl fun T41 X42 => ?_
  have c43 := (q1.keep K39 nin0)
  have c44 := (q0.keep K39)
  have ge46 : n0 ≤ a := by omega
  refine k_putF X42 d_jdk_42_149_14 (host := "") (Or.inl (w_32 hw)) Via.refl c43 c44 (Or.inr ⟨(w_33 hw), rfl, X42.hnm⟩) (w_5 hw) (ty := (.array .byte)) (by decide) rfl rfl c40 ge46 (pc' := 17) rfl fun T45 h45 L45 X45 W45 K45 => ?_
  have sz_h45 := K45.1
  have K0_h45 : Keep h0 h45 [a] := K0_h39.trans K45 (allS (Or.inl (List.mem_of_getElem? (i := 0) rfl)) all0)
  have F45 := c43.same W45
  refine k_aloadN X45 d_jdk_42_149_17 rfl rfl (pc' := 18) rfl ?_
  refine k_ldcR X45 d_jdk_42_149_18 (w_159 hw) (own_wS hw) (List.mem_of_getElem? (i := 0) rfl) (vs := []) (z := (0 : Int32)) (by decide) (by decide) rfl (n := 0) (by decide) (by decide) (by decide) (by decide) (pc' := 20) rfl fun s47 bb47 kb47 v47 T47 h47 X47 K47 C47 E47 Fc47 Fv47 V47 nq47 => ?_
  have sz_h47 := K47.1
  have K0_h47 : Keep h0 h47 [a] := K0_h45.trans K47 all0
  have lt47 := own_n E47.lt
  have ltb47 := own_n V47.lt
  have c48 := (C47.safe (own_n (by omega)) (X42.sf K45 (allS ⟨c40, ge46⟩ all0) c40))
  have nb := nq47 a c48
  have nb1 := own_ni nb.1
  have nb2 := own_ni nb.2
  refine k_getF X47 d_jdk_42_149_20 (host := "") (Or.inl (w_30 hw)) Via.refl Fc47 (pc' := 23) rfl fun T49 X50 => ?_
  have c51 := (((q2.keep K39 nin0).other W45 (Or.inr (slot_ne (Or.inr (w_31 hw)) (Or.inr (w_33 hw)) (by decide) (t := .byte) (t' := (.array .byte)) (by decide) (by decide)))).keep K47 nin0)
  have c52 := ((c44.keep K45).keep K47)
  refine k_putF X50 d_jdk_42_149_23 (host := "") (Or.inl (w_30 hw)) Via.refl c51 c52 (Or.inr ⟨(w_31 hw), rfl, X50.hnm⟩) (w_5 hw) (ty := .byte) (by decide) rfl rfl c48 ge46 (pc' := 26) rfl fun T53 h53 L53 X53 W53 K53 => ?_
  have sz_h53 := K53.1
  have K0_h53 : Keep h0 h53 [a] := K0_h47.trans K53 (allS (Or.inl (List.mem_of_getElem? (i := 0) rfl)) all0)
  have F53 := c51.same W53
  have c54 := (c52.keep K53)
  have c55 := ((F45.keep K47 nin0).other W53 (Or.inr (slot_ne (Or.inr (w_33 hw)) (Or.inr (w_31 hw)) (by decide) (t := (.array .byte)) (t' := .byte) (by decide) (by decide))))
  have ne56 : (bb39 : Nat) ≠ a := own_ne (by omega)
  have c57 := (((V39.keep K45 (ninS ne56 nin0)).keep K47 nin0).keep K53 (ninS ne56 nin0))
  exact k_retHV X53 d_jdk_42_149_26 rfl K0_h53 (fun v' C' => ⟨rfl, _, _, c54, F53, c55, c57⟩) (by decide) (by decide)
set_option maxRecDepth 65536 in
set_option maxHeartbeats 40000000 in
theorem own_initE (l : Launch) (Z : State) (a0 : Array Value) (hw : ∀ d ∈ tables_1, d.before a0 Z = true) {zc : Int32} {fm : Value}  (G : Gl Z zc fm) (n0 : Nat) (h0 : Heap) (O0 : Old Z n0 h0) (a : Nat) (b : Nat) (kb : ClassId) (vs : List Value) (dv : Value) (gw0 : n0 ≤ a) (q0 : Exa Z h0 a "java/lang/String") (q1 : Fld Z h0 a "java/lang/String" "value" "[B" .null) (q2 : Fld Z h0 a "java/lang/String" "coder" "B" (.int (0 : Int32))) (q3 : Arv Z h0 b kb .char (0 : Int32) vs dv) :
    MetH l [] Z EL n0 (⟨"java/lang/String", "<init>", "([C)V"⟩ : MethodName) jdk_42_method_3_code 2 (Option.none : Option FieldType) ({ frames := 2, cells := 4, slots := 8, locals := 29 } : Room) #[(.ref a), (.ref b)] h0 [a] (fun r v' h' => r = none ∧ ∃ (t : Nat), ∃ (kt : ClassId), (Exa Z h' a "java/lang/String") ∧ (Fld Z h' a "java/lang/String" "coder" "B" (.int (0 : Int32))) ∧ (Fld Z h' a "java/lang/String" "value" "[B" (.ref t)) ∧ (Arv Z h' t kt .byte (0 : Int32) [] (.int (0 : Int32)))) := by
  refine metH (hEL hw) (plainFor_of_name pn_1) O0 (Ls := #[.val (.ref a), .val (.ref b)]) (fun m => by first | (simp [entryFrame, mkF, argsToLocals, Value.category]; done) | rfl) ?_
  intro p e s m below meth c T0 v0 X0 hSf
  have K0_h0 := Keep.refl h0 [a]
  have n0le := X0.n0le
  have ltq0 := own_n q0.lt
  have ltq1 := own_n q1.lt
  have ltq2 := own_n q2.lt
  have ltq3 := own_n q3.lt
  have sf_0 := hSf a (List.mem_of_getElem? (i := 0) rfl)
  obtain ⟨G_cs, G_zc, G_fm, isref_fm⟩ := id G
  refine k_aloadN X0 d_jdk_42_3_0 rfl rfl (pc' := 1) rfl ?_
  refine k_aloadN X0 d_jdk_42_3_1 rfl rfl (pc' := 2) rfl ?_
  refine k_iconst X0 d_jdk_42_3_2 (w := (0 : Int32)) rfl (pc' := 3) rfl ?_
  refine k_aloadN X0 d_jdk_42_3_3 rfl rfl (pc' := 4) rfl ?_
  refine k_arlen X0 d_jdk_42_3_4 q3 (pc' := 5) rfl ?_
  refine k_aconstNull X0 d_jdk_42_3_5 (pc' := 6) rfl ?_
  have ge58 : n0 ≤ a := by omega
  refine k_callPNH X0 (y := (⟨"java/lang/String", "<init>", "([CIILjava/lang/Void;)V"⟩ : MethodName)) d_jdk_42_3_6 (w_11 hw) (w_12 hw) (w_6 hw) (w_14 hw) (by decide) rfl rfl (argsL := [(.ref b), (.int (0 : Int32)), (.int (0 : Int32)), .null]) (rest := []) (own_init4E l Z a0 hw G n0 h0 X0.old a b ge58 q0 q1 q2) rfl pd_3 rfl rfl (by decide) (W := 0) (Nat.le_of_eq rfl) (by decide) (by decide) (by decide) (allS ⟨⟨own_n (by omega), sf_0⟩, ge58⟩ all0) (pc' := 9) rfl ?_
  rintro v61 T61 h61 L61 X61 K61 C61 ⟨t_59, kt_60, q61_0, q61_1, q61_2, q61_3⟩
  have sz_h61 := K61.1
  have K0_h61 : Keep h0 h61 [a] := K0_h0.trans K61 (allS (Or.inl (List.mem_of_getElem? (i := 0) rfl)) all0)
  have lt61_0 := own_n q61_0.lt
  have lt61_1 := own_n q61_1.lt
  have lt61_2 := own_n q61_2.lt
  have lt61_3 := own_n q61_3.lt
  exact k_retHV X61 d_jdk_42_3_9 rfl K0_h61 (fun v' C' => ⟨rfl, _, _, q61_0, q61_1, q61_2, q61_3⟩) (by decide) (by decide)
set_option maxRecDepth 65536 in
set_option maxHeartbeats 40000000 in
theorem own_coder (l : Launch) (Z : State) (a0 : Array Value) (hw : ∀ d ∈ tables_1, d.before a0 Z = true) {zc : Int32} {fm : Value}  (G : Gl Z zc fm) (n0 : Nat) (h0 : Heap) (O0 : Old Z n0 h0) (a : Nat) (cd : Int32) (hcd : cd = 0 ∨ cd = 1)  (q0 : Fld Z h0 a "java/lang/String" "coder" "B" (.int cd)) :
    MetF l [] Z n0 (⟨"java/lang/String", "coder", "()B"⟩ : MethodName) jdk_42_method_152_code 1 (Option.some FieldType.byte) ({ frames := 0, cells := 0, slots := 0, locals := 0 } : Room) #[(.ref a)] h0 [] (fun r h' => ∃ w, r = some w ∧ w = (.int cd) ∧ True) := by
  refine metF (plainFor_of_name pn_1) O0 (Ls := #[.val (.ref a)]) (fun m => by first | (simp [entryFrame, mkF, argsToLocals, Value.category]; done) | rfl) ?_
  intro p e s m below meth c T0 X0
  have K0_h0 := Keep.refl h0 []
  have n0le := X0.n0le
  have ltq0 := own_n q0.lt
  obtain ⟨G_cs, G_zc, G_fm, isref_fm⟩ := id G
  refine k_getS X0 d_jdk_42_152_0 (host := "") (Or.inl (w_18 hw)) Via.refl (G_cs.ext X0.old.2) (pc' := 3) rfl fun T62 X63 => ?_
  refine k_ifNo X63 d_jdk_42_152_3 ((if0 _ _).trans (feq G_zc).1) (pc' := 6) rfl ?_
  refine k_aloadN X63 d_jdk_42_152_6 rfl rfl (pc' := 7) rfl ?_
  refine k_getF X63 d_jdk_42_152_7 (host := "") (Or.inl (w_30 hw)) Via.refl q0 (pc' := 10) rfl fun T64 X65 => ?_
  refine k_goto X65 d_jdk_42_152_10 (pc' := 14) (by decide) (by decide) ?_
  exact k_retFN X65 (w := cd) d_jdk_42_152_14 (t := .byte) rfl (by simp) (own_nar01 hcd) K0_h0 ⟨_, rfl, rfl, trivial⟩ (by decide) (by decide)
set_option maxRecDepth 65536 in
set_option maxHeartbeats 40000000 in
theorem own_len (l : Launch) (Z : State) (a0 : Array Value) (hw : ∀ d ∈ tables_1, d.before a0 Z = true) {zc : Int32} {fm : Value}  (G : Gl Z zc fm) (n0 : Nat) (h0 : Heap) (O0 : Old Z n0 h0) (a : Nat) (t : Nat) (kt : ClassId) (cd : Int32) (zz : Int32) (bs : List Value) (cs : List Int32) (hn : cs.length < 1073741824)  (q0 : Exa Z h0 a "java/lang/String") (q1 : Fld Z h0 a "java/lang/String" "value" "[B" (.ref t)) (q2 : Fld Z h0 a "java/lang/String" "coder" "B" (.int cd)) (q3 : Arv Z h0 t kt .byte zz bs (.int (0 : Int32))) (q4 : own_cod cs cd zz bs) :
    MetF l [] Z n0 (⟨"java/lang/String", "length", "()I"⟩ : MethodName) jdk_42_method_54_code 1 (Option.some FieldType.int) ({ frames := 1, cells := 0, slots := 0, locals := 13 } : Room) #[(.ref a)] h0 [] (fun r h' => ∃ w, r = some w ∧ w = (.int (Int32.ofNat cs.length)) ∧ True) := by
  refine metF (plainFor_of_name pn_1) O0 (Ls := #[.val (.ref a)]) (fun m => by first | (simp [entryFrame, mkF, argsToLocals, Value.category]; done) | rfl) ?_
  intro p e s m below meth c T0 X0
  have K0_h0 := Keep.refl h0 []
  have n0le := X0.n0le
  have ltq0 := own_n q0.lt
  have ltq1 := own_n q1.lt
  have ltq2 := own_n q2.lt
  have ltq3 := own_n q3.lt
  obtain ⟨G_cs, G_zc, G_fm, isref_fm⟩ := id G
  refine k_aloadN X0 d_jdk_42_54_0 rfl rfl (pc' := 1) rfl ?_
  refine k_getF X0 d_jdk_42_54_1 (host := "") (Or.inl (w_32 hw)) Via.refl q1 (pc' := 4) rfl fun T66 X67 => ?_
  refine k_arlen X67 d_jdk_42_54_4 q3 (pc' := 5) rfl ?_
  refine k_aloadN X67 d_jdk_42_54_5 rfl rfl (pc' := 6) rfl ?_
  refine k_callVVF X67 (y := (⟨"java/lang/String", "coder", "()B"⟩ : MethodName)) d_jdk_42_54_6 (w_101 hw) (w_102 hw) (w_104 hw) (w_103 hw) (w_6 hw) (w_105 hw) (by decide) (notFace_of_selects (args := #[]) (mvT X67.hZ (w_104 hw))) q0 (argsL := []) (rest := [(.int zz)]) (own_coder l Z a0 hw G n0 h0 X67.old a cd (own_cod_cd q4) q2) rfl pd_4 rfl rfl (by decide) (W := 1) (Nat.le_of_eq rfl) (by decide) (by decide) (by decide) all0 (pc' := 9) rfl ?_
  rintro _ T68 h68 L68 X68 K68 ⟨rfl, -⟩
  have sz_h68 := K68.1
  have K0_h68 : Keep h0 h68 [] := K0_h0.trans K68 all0
  refine k_ishr X68 d_jdk_42_54_9 (w := (Int32.ofNat cs.length)) (own_cod_len q4 hn) (pc' := 10) rfl ?_
  exact k_retFI X68 d_jdk_42_54_10 rfl K0_h68 ⟨_, rfl, rfl, trivial⟩ (by decide) (by decide)
set_option maxRecDepth 65536 in
set_option maxHeartbeats 40000000 in
theorem own_beq (l : Launch) (Z : State) (a0 : Array Value) (hw : ∀ d ∈ tables_1, d.before a0 Z = true) {zc : Int32} {fm : Value}  (G : Gl Z zc fm) (n0 : Nat) (h0 : Heap) (O0 : Old Z n0 h0) (d : Nat) (g : Nat) (kd : ClassId) (kg : ClassId) (zd : Int32) (zg : Int32) (is : List Int32) (js : List Int32) (hzd : zd = Int32.ofNat is.length) (hzg : zg = Int32.ofNat js.length) (hn1 : is.length < 2147483648) (hn2 : js.length < 2147483648)  (q0 : Arv Z h0 d kd .byte zd (is.map Value.int) (.int (0 : Int32))) (q1 : Arv Z h0 g kg .byte zg (js.map Value.int) (.int (0 : Int32))) :
    MetF l [] Z n0 (⟨"java/lang/StringLatin1", "equals", "([B[B)Z"⟩ : MethodName) jdk_43_method_13_code 3 (Option.some FieldType.boolean) ({ frames := 0, cells := 0, slots := 0, locals := 0 } : Room) #[(.ref d), (.ref g)] h0 [] (fun r h' => ∃ w, r = some w ∧ w = (.int (own_eqv is js)) ∧ True) := by
  refine metF (plainFor_of_name pn_2) O0 (Ls := #[.val (.ref d), .val (.ref g), .unset]) (fun m => by first | (simp [entryFrame, mkF, argsToLocals, Value.category]; done) | rfl) ?_
  intro p e s m below meth c T0 X0
  have K0_h0 := Keep.refl h0 []
  have n0le := X0.n0le
  have ltq0 := own_n q0.lt
  have ltq1 := own_n q1.lt
  obtain ⟨G_cs, G_zc, G_fm, isref_fm⟩ := id G
  have loop : ∀ (n i : Nat) (T : State) (L : List Loc), n = is.length - i → i ≤ is.length → is.length = js.length → (∀ j, j < i → is.getD j 0 = js.getD j 0) → WP p l e ({ frames := 0, cells := 0, slots := 0, locals := 0 } : Room) s m #[(.ref d), (.ref g)] below meth c Z "java/lang/StringLatin1" "equals" jdk_43_method_13_code 3 (Option.some FieldType.boolean) n0 (fun _ => True) (fun _ _ => True) T h0 L 0 0 → Run p.tables e below (PF s below n0 h0 [] (fun r h' => ∃ w, r = some w ∧ w = (.int (own_eqv is js)) ∧ True) ({ frames := 0, cells := 0, slots := 0, locals := 0 } : Room).cells ({ frames := 0, cells := 0, slots := 0, locals := 0 } : Room).slots) T (mkF m 9 #[.val (.ref d), .val (.ref g), .val (.int (Int32.ofNat i))] []) := by
    intro n
    induction n with
    | zero =>
      intro i T L hni hij hll hal X
      have hi : i = is.length := by omega
      subst hi
      have hnl : ¬ (Int32.ofNat is.length < zd) := by rw [← hzd]; exact Int32.lt_irrefl
      have he : own_eqv is js = 1 := if_pos (own_ext is js hll hal)
      refine k_iloadN X d_jdk_43_13_9 rfl (pc' := 10) rfl ?_
      refine k_aloadN X d_jdk_43_13_10 rfl rfl (pc' := 11) rfl ?_
      refine k_arlen X d_jdk_43_13_11 q0 (pc' := 12) rfl ?_
      refine k_icmpYes X d_jdk_43_13_12 (flt hnl).2.1 (pc' := 32) (by decide) (by decide) ?_
      refine k_iconst X d_jdk_43_13_32 (w := (1 : Int32)) rfl (pc' := 33) rfl ?_
      exact k_retFN X (w := (1 : Int32)) d_jdk_43_13_33 (t := .boolean) rfl (by simp) rfl K0_h0 ⟨_, rfl, by rw [he], trivial⟩ (by decide) (by decide)
    | succ n ih =>
      intro i T L hni hij hll hal X
      have hi : i < is.length := by omega
      have hlt := own_lt hi hn1
      rw [← hzd] at hlt
      have hlt2 := own_lt (show i < js.length by omega) hn2
      rw [← hzg] at hlt2
      refine k_iloadN X d_jdk_43_13_9 rfl (pc' := 10) rfl ?_
      refine k_aloadN X d_jdk_43_13_10 rfl rfl (pc' := 11) rfl ?_
      refine k_arlen X d_jdk_43_13_11 q0 (pc' := 12) rfl ?_
      refine k_icmpNo X d_jdk_43_13_12 (tlt hlt).2.1 (pc' := 15) rfl ?_
      refine k_aloadN X d_jdk_43_13_15 rfl rfl (pc' := 16) rfl ?_
      refine k_iloadN X d_jdk_43_13_16 rfl (pc' := 17) rfl ?_
      refine k_baload X d_jdk_43_13_17 q0 (own_nn (by omega)) hlt (v := (.int (is.getD i 0))) (own_getc' is (by omega)) (pc' := 18) rfl ?_
      refine k_aloadN X d_jdk_43_13_18 rfl rfl (pc' := 19) rfl ?_
      refine k_iloadN X d_jdk_43_13_19 rfl (pc' := 20) rfl ?_
      refine k_baload X d_jdk_43_13_20 q1 (own_nn (by omega)) hlt2 (v := (.int (js.getD i 0))) (own_getc' js (by omega)) (pc' := 21) rfl ?_
      by_cases hc70 : is.getD i 0 = js.getD i 0
      · refine k_icmpYes X d_jdk_43_13_21 (teq hc70).1 (pc' := 26) (by decide) (by decide) ?_
        refine k_iinc X d_jdk_43_13_26 rfl (w := (Int32.ofNat (i + 1))) (own_succ i) (Ls' := #[.val (.ref d), .val (.ref g), .val (.int (Int32.ofNat (i + 1)))]) rfl (pc' := 29) rfl ?_
        refine k_goto X d_jdk_43_13_29 (pc' := 9) (by decide) (by decide) ?_
        exact ih (i + 1) _ _ (by omega) (by omega) hll (fun j hj => by rcases Nat.lt_succ_iff_lt_or_eq.mp hj with q | q; exact hal j q; subst q; exact hc70) X
      · have he : own_eqv is js = 0 := if_neg fun q => hc70 (by rw [q])
        refine k_icmpNo X d_jdk_43_13_21 (feq hc70).1 (pc' := 24) rfl ?_
        refine k_iconst X d_jdk_43_13_24 (w := (0 : Int32)) rfl (pc' := 25) rfl ?_
        exact k_retFN X (w := (0 : Int32)) d_jdk_43_13_25 (t := .boolean) rfl (by simp) rfl K0_h0 ⟨_, rfl, by rw [he], trivial⟩ (by decide) (by decide)
  refine k_aloadN X0 d_jdk_43_13_0 rfl rfl (pc' := 1) rfl ?_
  refine k_arlen X0 d_jdk_43_13_1 q0 (pc' := 2) rfl ?_
  refine k_aloadN X0 d_jdk_43_13_2 rfl rfl (pc' := 3) rfl ?_
  refine k_arlen X0 d_jdk_43_13_3 q1 (pc' := 4) rfl ?_
  by_cases hc71 : is.length = js.length
  · have hz : zd = zg := by rw [hzd, hzg, hc71]
    refine k_icmpNo X0 d_jdk_43_13_4 (teq hz).2 (pc' := 7) rfl ?_
    refine k_iconst X0 d_jdk_43_13_7 (w := (0 : Int32)) rfl (pc' := 8) rfl ?_
    refine k_istoreN X0 d_jdk_43_13_8 (Ls' := #[.val (.ref d), .val (.ref g), .val (.int (0 : Int32))]) rfl (pc' := 9) rfl ?_
    exact loop _ 0 _ _ rfl (by omega) hc71 (fun j hj => by omega) X0
  · have hz : ¬ (zd = zg) := fun q => hc71 (by have := congrArg Int32.toNatClampNeg (hzd.symm.trans (q.trans hzg)); rwa [own_clamp hn1, own_clamp hn2] at this)
    have he : own_eqv is js = 0 := if_neg fun q => hc71 (by rw [q])
    refine k_icmpYes X0 d_jdk_43_13_4 (feq hz).2 (pc' := 34) (by decide) (by decide) ?_
    refine k_iconst X0 d_jdk_43_13_34 (w := (0 : Int32)) rfl (pc' := 35) rfl ?_
    exact k_retFN X0 (w := (0 : Int32)) d_jdk_43_13_35 (t := .boolean) rfl (by simp) rfl K0_h0 ⟨_, rfl, by rw [he], trivial⟩ (by decide) (by decide)
set_option maxRecDepth 65536 in
set_option maxHeartbeats 40000000 in
theorem own_eq (l : Launch) (Z : State) (a0 : Array Value) (hw : ∀ d ∈ tables_1, d.before a0 Z = true) {zc : Int32} {fm : Value}  (G : Gl Z zc fm) (n0 : Nat) (h0 : Heap) (O0 : Old Z n0 h0) (a : Nat) (b : Nat) (t : Nat) (kt : ClassId) (cd : Int32) (zz : Int32) (bs : List Value) (cs : List Int32) (t2 : Nat) (kt2 : ClassId) (cd2 : Int32) (zz2 : Int32) (bs2 : List Value) (cs2 : List Int32) (hn : cs.length < 536870912) (hn2 : cs2.length < 536870912) (hr : own_chs cs) (hr2 : own_chs cs2)  (q0 : Exa Z h0 a "java/lang/String") (q1 : Fld Z h0 a "java/lang/String" "value" "[B" (.ref t)) (q2 : Fld Z h0 a "java/lang/String" "coder" "B" (.int cd)) (q3 : Arv Z h0 t kt .byte zz bs (.int (0 : Int32))) (q4 : own_cod cs cd zz bs) (q5 : Exa Z h0 b "java/lang/String") (q6 : Fld Z h0 b "java/lang/String" "value" "[B" (.ref t2)) (q7 : Fld Z h0 b "java/lang/String" "coder" "B" (.int cd2)) (q8 : Arv Z h0 t2 kt2 .byte zz2 bs2 (.int (0 : Int32))) (q9 : own_cod cs2 cd2 zz2 bs2) :
    MetF l [] Z n0 (⟨"java/lang/String", "equals", "(Ljava/lang/Object;)Z"⟩ : MethodName) jdk_42_method_66_code 3 (Option.some FieldType.boolean) ({ frames := 1, cells := 0, slots := 0, locals := 14 } : Room) #[(.ref a), (.ref b)] h0 [] (fun r h' => ∃ w, r = some w ∧ w = (.int (own_eqv cs cs2)) ∧ True) := by
  refine metF (plainFor_of_name pn_1) O0 (Ls := #[.val (.ref a), .val (.ref b), .unset]) (fun m => by first | (simp [entryFrame, mkF, argsToLocals, Value.category]; done) | rfl) ?_
  intro p e s m below meth c T0 X0
  have K0_h0 := Keep.refl h0 []
  have n0le := X0.n0le
  have ltq0 := own_n q0.lt
  have ltq1 := own_n q1.lt
  have ltq2 := own_n q2.lt
  have ltq3 := own_n q3.lt
  have ltq5 := own_n q5.lt
  have ltq6 := own_n q6.lt
  have ltq7 := own_n q7.lt
  have ltq8 := own_n q8.lt
  obtain ⟨G_cs, G_zc, G_fm, isref_fm⟩ := id G
  obtain ⟨is, ei, ezi, eli⟩ := own_cod_ints q4
  obtain ⟨js, ej, ezj, elj⟩ := own_cod_ints q9
  by_cases hc72 : a = b
  · subst hc72
    have ht : t = t2 := by rcases Nat.decEq t t2 with q | q; exact absurd rfl (Fld.ne q1 q6 fun r => q (Value.ref.inj r)); exact q
    subst ht
    have hc : cd = cd2 := by rcases (inferInstance : Decidable (cd = cd2)) with q | q; exact absurd rfl (Fld.ne q2 q7 fun r => q (Value.int.inj r)); exact q
    subst hc
    have he := own_same_txt q3 q8 q4 q9 hr hr2 hn hn2
    refine k_aloadN X0 d_jdk_42_66_0 rfl rfl (pc' := 1) rfl ?_
    refine k_aloadN X0 d_jdk_42_66_1 rfl rfl (pc' := 2) rfl ?_
    refine k_acmp X0 true d_jdk_42_66_2 rfl rfl (decide_eq_true rfl) (by decide) (pc' := 5) (by decide) ?_
    refine k_iconst X0 d_jdk_42_66_5 (w := (1 : Int32)) rfl (pc' := 6) rfl ?_
    exact k_retFN X0 (w := (1 : Int32)) d_jdk_42_66_6 (t := .boolean) rfl (by simp) rfl K0_h0 ⟨_, rfl, by rw [he], trivial⟩ (by decide) (by decide)
  · refine k_aloadN X0 d_jdk_42_66_0 rfl rfl (pc' := 1) rfl ?_
    refine k_aloadN X0 d_jdk_42_66_1 rfl rfl (pc' := 2) rfl ?_
    refine k_acmp X0 false d_jdk_42_66_2 rfl rfl (decide_eq_false fun q => hc72 (Value.ref.inj q)) (by decide) (pc' := 7) (by decide) ?_
    refine k_aloadN X0 d_jdk_42_66_7 rfl rfl (pc' := 8) rfl ?_
    refine k_instY X0 d_jdk_42_66_8 (w_203 hw) (Ins.self q5) (pc' := 11) rfl fun T73 X74 => ?_
    refine k_ifNo X74 d_jdk_42_66_11 (by decide) (pc' := 14) rfl ?_
    refine k_aloadN X74 d_jdk_42_66_14 rfl rfl (pc' := 15) rfl ?_
    refine k_castY X74 d_jdk_42_66_15 (w_203 hw) (Ins.self q5) (pc' := 18) rfl fun T75 X76 => ?_
    refine k_astoreN X76 d_jdk_42_66_18 rfl (Ls' := #[.val (.ref a), .val (.ref b), .val (.ref b)]) rfl (pc' := 19) rfl ?_
    refine k_getS X76 d_jdk_42_66_19 (host := "") (Or.inl (w_18 hw)) Via.refl (G_cs.ext X76.old.2) (pc' := 22) rfl fun T77 X78 => ?_
    refine k_ifNo X78 d_jdk_42_66_22 ((if0 _ _).trans (feq G_zc).1) (pc' := 25) rfl ?_
    refine k_aloadN X78 d_jdk_42_66_25 rfl rfl (pc' := 26) rfl ?_
    refine k_getF X78 d_jdk_42_66_26 (host := "") (Or.inl (w_30 hw)) Via.refl q2 (pc' := 29) rfl fun T79 X80 => ?_
    refine k_aloadN X80 d_jdk_42_66_29 rfl rfl (pc' := 30) rfl ?_
    refine k_getF X80 d_jdk_42_66_30 (host := "") (Or.inl (w_30 hw)) Via.refl q7 (pc' := 33) rfl fun T81 X82 => ?_
    by_cases hc83 : cd = cd2
    · subst hc83
      have he := own_cod_eq q4 q9 hr hr2 ei ej
      subst ei ej
      refine k_icmpNo X82 d_jdk_42_66_33 (teq rfl).2 (pc' := 36) rfl ?_
      refine k_aloadN X82 d_jdk_42_66_36 rfl rfl (pc' := 37) rfl ?_
      refine k_getF X82 d_jdk_42_66_37 (host := "") (Or.inl (w_32 hw)) Via.refl q1 (pc' := 40) rfl fun T84 X85 => ?_
      refine k_aloadN X85 d_jdk_42_66_40 rfl rfl (pc' := 41) rfl ?_
      refine k_getF X85 d_jdk_42_66_41 (host := "") (Or.inl (w_32 hw)) Via.refl q6 (pc' := 44) rfl fun T86 X87 => ?_
      refine k_callSVF X87 (y := (⟨"java/lang/StringLatin1", "equals", "([B[B)Z"⟩ : MethodName)) d_jdk_42_66_44 (w_204 hw) (w_205 hw) (w_200 hw) (w_206 hw) (by decide) (argsL := [(.ref t), (.ref t2)]) (rest := []) (own_beq l Z a0 hw G n0 h0 X87.old t t2 kt kt2 zz zz2 is js ezi ezj (by omega) (by omega) q3 q8) rfl pd_5 rfl rfl (by decide) (W := 0) (Nat.le_of_eq rfl) (by decide) (by decide) (by decide) all0 (pc' := 47) rfl ?_
      rintro _ T88 h88 L88 X88 K88 ⟨rfl, -⟩
      have sz_h88 := K88.1
      have K0_h88 : Keep h0 h88 [] := K0_h0.trans K88 all0
      by_cases hc90 : own_eqv is js = (0 : Int32)
      · refine k_ifYes X88 d_jdk_42_66_47 ((if0 _ _).trans (teq hc90).1) (pc' := 54) (by decide) (by decide) ?_
        refine k_iconst X88 d_jdk_42_66_54 (w := (0 : Int32)) rfl (pc' := 55) rfl ?_
        exact k_retFN X88 (w := (0 : Int32)) d_jdk_42_66_55 (t := .boolean) rfl (by simp) rfl K0_h88 ⟨_, rfl, by rw [← he, hc90], trivial⟩ (by decide) (by decide)
      · have h1 : own_eqv is js = 1 := by rcases own_eqv01 is js with q | q; exact absurd q hc90; exact q
        refine k_ifNo X88 d_jdk_42_66_47 ((if0 _ _).trans (feq hc90).1) (pc' := 50) rfl ?_
        refine k_iconst X88 d_jdk_42_66_50 (w := (1 : Int32)) rfl (pc' := 51) rfl ?_
        refine k_goto X88 d_jdk_42_66_51 (pc' := 55) (by decide) (by decide) ?_
        exact k_retFN X88 (w := (1 : Int32)) d_jdk_42_66_55 (t := .boolean) rfl (by simp) rfl K0_h88 ⟨_, rfl, by rw [← he, h1], trivial⟩ (by decide) (by decide)
    · have he := own_cod_ne q4 q9 hc83
      refine k_icmpYes X82 d_jdk_42_66_33 (feq hc83).2 (pc' := 54) (by decide) (by decide) ?_
      refine k_iconst X82 d_jdk_42_66_54 (w := (0 : Int32)) rfl (pc' := 55) rfl ?_
      exact k_retFN X82 (w := (0 : Int32)) d_jdk_42_66_55 (t := .boolean) rfl (by simp) rfl K0_h0 ⟨_, rfl, by rw [he], trivial⟩ (by decide) (by decide)
set_option maxRecDepth 65536 in
set_option maxHeartbeats 40000000 in
theorem own_initBB0 (l : Launch) (Z : State) (a0 : Array Value) (hw : ∀ d ∈ tables_1, d.before a0 Z = true) {zc : Int32} {fm : Value}  (G : Gl Z zc fm) (n0 : Nat) (h0 : Heap) (O0 : Old Z n0 h0) (a : Nat) (t : Nat) (gw0 : n0 ≤ a) (q0 : Exa Z h0 a "java/lang/String") (q1 : Fld Z h0 a "java/lang/String" "value" "[B" .null) (q2 : Fld Z h0 a "java/lang/String" "coder" "B" (.int (0 : Int32))) :
    MetF l [] Z n0 (⟨"java/lang/String", "<init>", "([BB)V"⟩ : MethodName) jdk_42_method_151_code 3 (Option.none : Option FieldType) ({ frames := 1, cells := 0, slots := 0, locals := 12 } : Room) #[(.ref a), (.ref t), (.int (0 : Int32))] h0 [a] (fun r h' => r = none ∧ (Exa Z h' a "java/lang/String") ∧ (Fld Z h' a "java/lang/String" "value" "[B" (.ref t)) ∧ (Fld Z h' a "java/lang/String" "coder" "B" (.int (0 : Int32)))) := by
  refine metF (plainFor_of_name pn_1) O0 (Ls := #[.val (.ref a), .val (.ref t), .val (.int (0 : Int32))]) (fun m => by first | (simp [entryFrame, mkF, argsToLocals, Value.category]; done) | rfl) ?_
  intro p e s m below meth c T0 X0
  have K0_h0 := Keep.refl h0 [a]
  have n0le := X0.n0le
  have ltq0 := own_n q0.lt
  have ltq1 := own_n q1.lt
  have ltq2 := own_n q2.lt
  obtain ⟨G_cs, G_zc, G_fm, isref_fm⟩ := id G
  refine k_aloadN X0 d_jdk_42_151_0 rfl rfl (pc' := 1) rfl ?_
  refine k_initO X0 d_jdk_42_151_1 (w_15 hw) (w_16 hw) (w_17 hw) rfl (by decide) (W := 0) (Nat.le_of_eq rfl) (by decide) (pc' := 4) rfl fun T91 X92 => ?_
  refine k_aloadN X92 d_jdk_42_151_4 rfl rfl (pc' := 5) rfl ?_
  refine k_aloadN X92 d_jdk_42_151_5 rfl rfl (pc' := 6) rfl ?_
  have ge94 : n0 ≤ a := by omega
  refine k_putF X92 d_jdk_42_151_6 (host := "") (Or.inl (w_32 hw)) Via.refl q1 q0 (Or.inr ⟨(w_33 hw), rfl, X92.hnm⟩) (w_5 hw) (ty := (.array .byte)) (by decide) rfl rfl trivial ge94 (pc' := 9) rfl fun T93 h93 L93 X93 W93 K93 => ?_
  have sz_h93 := K93.1
  have K0_h93 : Keep h0 h93 [a] := K0_h0.trans K93 (allS (Or.inl (List.mem_of_getElem? (i := 0) rfl)) all0)
  have F93 := q1.same W93
  refine k_aloadN X93 d_jdk_42_151_9 rfl rfl (pc' := 10) rfl ?_
  refine k_iloadN X93 d_jdk_42_151_10 rfl (pc' := 11) rfl ?_
  have c95 := (q2.other W93 (Or.inr (slot_ne (Or.inr (w_31 hw)) (Or.inr (w_33 hw)) (by decide) (t := .byte) (t' := (.array .byte)) (by decide) (by decide))))
  have c96 := (q0.keep K93)
  refine k_putF X93 d_jdk_42_151_11 (host := "") (Or.inl (w_30 hw)) Via.refl c95 c96 (Or.inr ⟨(w_31 hw), rfl, X93.hnm⟩) (w_5 hw) (ty := .byte) (by decide) rfl rfl trivial ge94 (pc' := 14) rfl fun T97 h97 L97 X97 W97 K97 => ?_
  have sz_h97 := K97.1
  have K0_h97 : Keep h0 h97 [a] := K0_h93.trans K97 (allS (Or.inl (List.mem_of_getElem? (i := 0) rfl)) all0)
  have F97 := c95.same W97
  have c98 := (c96.keep K97)
  have c99 := (F93.other W97 (Or.inr (slot_ne (Or.inr (w_33 hw)) (Or.inr (w_31 hw)) (by decide) (t := (.array .byte)) (t' := .byte) (by decide) (by decide))))
  exact k_retFV X97 d_jdk_42_151_14 rfl K0_h97 ⟨rfl, c98, c99, F97⟩ (by decide) (by decide)
set_option maxRecDepth 65536 in
set_option maxHeartbeats 40000000 in
theorem own_initBB1 (l : Launch) (Z : State) (a0 : Array Value) (hw : ∀ d ∈ tables_1, d.before a0 Z = true) {zc : Int32} {fm : Value}  (G : Gl Z zc fm) (n0 : Nat) (h0 : Heap) (O0 : Old Z n0 h0) (a : Nat) (t : Nat) (gw0 : n0 ≤ a) (q0 : Exa Z h0 a "java/lang/String") (q1 : Fld Z h0 a "java/lang/String" "value" "[B" .null) (q2 : Fld Z h0 a "java/lang/String" "coder" "B" (.int (0 : Int32))) :
    MetF l [] Z n0 (⟨"java/lang/String", "<init>", "([BB)V"⟩ : MethodName) jdk_42_method_151_code 3 (Option.none : Option FieldType) ({ frames := 1, cells := 0, slots := 0, locals := 12 } : Room) #[(.ref a), (.ref t), (.int (1 : Int32))] h0 [a] (fun r h' => r = none ∧ (Exa Z h' a "java/lang/String") ∧ (Fld Z h' a "java/lang/String" "value" "[B" (.ref t)) ∧ (Fld Z h' a "java/lang/String" "coder" "B" (.int (1 : Int32)))) := by
  refine metF (plainFor_of_name pn_1) O0 (Ls := #[.val (.ref a), .val (.ref t), .val (.int (1 : Int32))]) (fun m => by first | (simp [entryFrame, mkF, argsToLocals, Value.category]; done) | rfl) ?_
  intro p e s m below meth c T0 X0
  have K0_h0 := Keep.refl h0 [a]
  have n0le := X0.n0le
  have ltq0 := own_n q0.lt
  have ltq1 := own_n q1.lt
  have ltq2 := own_n q2.lt
  obtain ⟨G_cs, G_zc, G_fm, isref_fm⟩ := id G
  refine k_aloadN X0 d_jdk_42_151_0 rfl rfl (pc' := 1) rfl ?_
  refine k_initO X0 d_jdk_42_151_1 (w_15 hw) (w_16 hw) (w_17 hw) rfl (by decide) (W := 0) (Nat.le_of_eq rfl) (by decide) (pc' := 4) rfl fun T100 X101 => ?_
  refine k_aloadN X101 d_jdk_42_151_4 rfl rfl (pc' := 5) rfl ?_
  refine k_aloadN X101 d_jdk_42_151_5 rfl rfl (pc' := 6) rfl ?_
  have ge103 : n0 ≤ a := by omega
  refine k_putF X101 d_jdk_42_151_6 (host := "") (Or.inl (w_32 hw)) Via.refl q1 q0 (Or.inr ⟨(w_33 hw), rfl, X101.hnm⟩) (w_5 hw) (ty := (.array .byte)) (by decide) rfl rfl trivial ge103 (pc' := 9) rfl fun T102 h102 L102 X102 W102 K102 => ?_
  have sz_h102 := K102.1
  have K0_h102 : Keep h0 h102 [a] := K0_h0.trans K102 (allS (Or.inl (List.mem_of_getElem? (i := 0) rfl)) all0)
  have F102 := q1.same W102
  refine k_aloadN X102 d_jdk_42_151_9 rfl rfl (pc' := 10) rfl ?_
  refine k_iloadN X102 d_jdk_42_151_10 rfl (pc' := 11) rfl ?_
  have c104 := (q2.other W102 (Or.inr (slot_ne (Or.inr (w_31 hw)) (Or.inr (w_33 hw)) (by decide) (t := .byte) (t' := (.array .byte)) (by decide) (by decide))))
  have c105 := (q0.keep K102)
  refine k_putF X102 d_jdk_42_151_11 (host := "") (Or.inl (w_30 hw)) Via.refl c104 c105 (Or.inr ⟨(w_31 hw), rfl, X102.hnm⟩) (w_5 hw) (ty := .byte) (by decide) rfl rfl trivial ge103 (pc' := 14) rfl fun T106 h106 L106 X106 W106 K106 => ?_
  have sz_h106 := K106.1
  have K0_h106 : Keep h0 h106 [a] := K0_h102.trans K106 (allS (Or.inl (List.mem_of_getElem? (i := 0) rfl)) all0)
  have F106 := c104.same W106
  have c107 := (c105.keep K106)
  have c108 := (F102.other W106 (Or.inr (slot_ne (Or.inr (w_33 hw)) (Or.inr (w_31 hw)) (by decide) (t := (.array .byte)) (t' := .byte) (by decide) (by decide))))
  exact k_retFV X106 d_jdk_42_151_14 rfl K0_h106 ⟨rfl, c107, c108, F106⟩ (by decide) (by decide)
set_option maxRecDepth 65536 in
set_option maxHeartbeats 40000000 in
theorem own_minc (l : Launch) (Z : State) (a0 : Array Value) (hw : ∀ d ∈ tables_1, d.before a0 Z = true) {zc : Int32} {fm : Value}  (G : Gl Z zc fm) (n0 : Nat) (h0 : Heap) (O0 : Old Z n0 h0) (x : Int32) (z : Int32)   :
    MetF l [] Z n0 (⟨"java/lang/Math", "min", "(II)I"⟩ : MethodName) jdk_29_method_69_code 2 (Option.some FieldType.int) ({ frames := 0, cells := 0, slots := 0, locals := 0 } : Room) #[(.int x), (.int z)] h0 [] (fun r h' => ∃ w, r = some w ∧ w = (.int (own_minv x z)) ∧ True) := by
  refine metF pn_3 O0 (Ls := #[.val (.int x), .val (.int z)]) (fun m => by first | (simp [entryFrame, mkF, argsToLocals, Value.category]; done) | rfl) ?_
  intro p e s m below meth c T0 X0
  have K0_h0 := Keep.refl h0 []
  have n0le := X0.n0le
  obtain ⟨G_cs, G_zc, G_fm, isref_fm⟩ := id G
  refine k_iloadN X0 d_jdk_29_69_0 rfl (pc' := 1) rfl ?_
  refine k_iloadN X0 d_jdk_29_69_1 rfl (pc' := 2) rfl ?_
  by_cases hc109 : z < x
  · have he : own_minv x z = z := if_pos hc109
    refine k_icmpYes X0 d_jdk_29_69_2 (tlt hc109).2.2.1 (pc' := 9) (by decide) (by decide) ?_
    refine k_iloadN X0 d_jdk_29_69_9 rfl (pc' := 10) rfl ?_
    exact k_retFI X0 d_jdk_29_69_10 rfl K0_h0 ⟨_, rfl, by rw [he], trivial⟩ (by decide) (by decide)
  · have he : own_minv x z = x := if_neg hc109
    refine k_icmpNo X0 d_jdk_29_69_2 (flt hc109).2.2.1 (pc' := 5) rfl ?_
    refine k_iloadN X0 d_jdk_29_69_5 rfl (pc' := 6) rfl ?_
    refine k_goto X0 d_jdk_29_69_6 (pc' := 10) (by decide) (by decide) ?_
    exact k_retFI X0 d_jdk_29_69_10 rfl K0_h0 ⟨_, rfl, by rw [he], trivial⟩ (by decide) (by decide)
set_option maxRecDepth 65536 in
set_option maxHeartbeats 40000000 in
theorem own_clen (l : Launch) (Z : State) (a0 : Array Value) (hw : ∀ d ∈ tables_1, d.before a0 Z = true) {zc : Int32} {fm : Value}  (G : Gl Z zc fm) (n0 : Nat) (h0 : Heap) (O0 : Old Z n0 h0) (i : Int32) (j : Int32) (hij : ¬ j < i)   :
    MetF l [] Z n0 (⟨"java/util/Arrays", "checkLength", "(II)V"⟩ : MethodName) jdk_65_method_131_code 2 (Option.none : Option FieldType) ({ frames := 0, cells := 0, slots := 0, locals := 0 } : Room) #[(.int i), (.int j)] h0 [] (fun r h' => r = none ∧ True) := by
  refine metF (plainFor_of_name pn_4) O0 (Ls := #[.val (.int i), .val (.int j)]) (fun m => by first | (simp [entryFrame, mkF, argsToLocals, Value.category]; done) | rfl) ?_
  intro p e s m below meth c T0 X0
  have K0_h0 := Keep.refl h0 []
  have n0le := X0.n0le
  obtain ⟨G_cs, G_zc, G_fm, isref_fm⟩ := id G
  refine k_iloadN X0 d_jdk_65_131_0 rfl (pc' := 1) rfl ?_
  refine k_iloadN X0 d_jdk_65_131_1 rfl (pc' := 2) rfl ?_
  refine k_icmpYes X0 d_jdk_65_131_2 (flt hij).2.1 (pc' := 37) (by decide) (by decide) ?_
  exact k_retFV X0 d_jdk_65_131_37 rfl K0_h0 ⟨rfl, trivial⟩ (by decide) (by decide)
set_option maxRecDepth 65536 in
set_option maxHeartbeats 40000000 in
theorem own_corb (l : Launch) (Z : State) (a0 : Array Value) (hw : ∀ d ∈ tables_1, d.before a0 Z = true) {zc : Int32} {fm : Value}  (G : Gl Z zc fm) (n0 : Nat) (h0 : Heap) (O0 : Old Z n0 h0) (b : Nat) (kb : ClassId) (z : Int32) (vs : List Value) (N : Nat) (f : Nat) (n : Nat) (fv : Int32) (tv : Int32) (hz : z = Int32.ofNat N) (hvl : vs.length = N) (hfv : fv = Int32.ofNat f) (htv : tv = Int32.ofNat (f + n)) (hN : N < 1073741824) (hfn : f + n ≤ N) (hcap : n ≤ 6)  (q0 : Arv Z h0 b kb .byte z vs (.int (0 : Int32))) :
    MetF l [] Z n0 (⟨"java/util/Arrays", "copyOfRangeByte", "([BII)[B"⟩ : MethodName) jdk_65_method_133_code 5 (Option.some (FieldType.array FieldType.byte)) ({ frames := 1, cells := 1, slots := 6, locals := 18 } : Room) #[(.ref b), (.int fv), (.int tv)] h0 [] (fun r h' => ∃ w, r = some w ∧ ∃ (t : Nat), ∃ (kt : ClassId), w = (.ref t) ∧ (Arv Z h' t kt .byte (Int32.ofNat n) ((vs.drop f).take n) (.int (0 : Int32))) ∧ (h0.size ≤ t)) := by
  subst hfv htv
  refine metF (plainFor_of_name pn_4) O0 (Ls := #[.val (.ref b), .val (.int (Int32.ofNat f)), .val (.int (Int32.ofNat (f + n))), .unset, .unset]) (fun m => by first | (simp [entryFrame, mkF, argsToLocals, Value.category]; done) | rfl) ?_
  intro p e s m below meth c T0 X0
  have K0_h0 := Keep.refl h0 []
  have n0le := X0.n0le
  have ltq0 := own_n q0.lt
  obtain ⟨G_cs, G_zc, G_fm, isref_fm⟩ := id G
  refine k_iloadN X0 d_jdk_65_133_0 rfl (pc' := 1) rfl ?_
  refine k_iloadN X0 d_jdk_65_133_1 rfl (pc' := 2) rfl ?_
  refine k_callSNF X0 (y := (⟨"java/util/Arrays", "checkLength", "(II)V"⟩ : MethodName)) d_jdk_65_133_2 (w_217 hw) (w_218 hw) (w_212 hw) (w_219 hw) (by decide) (argsL := [(.int (Int32.ofNat f)), (.int (Int32.ofNat (f + n)))]) (rest := []) (own_clen l Z a0 hw G n0 h0 X0.old (Int32.ofNat f) (Int32.ofNat (f + n)) (own_nlt (by omega) (by omega)) ) rfl pd_6 rfl rfl (by decide) (W := 0) (Nat.le_of_eq rfl) (by decide) (by decide) (by decide) all0 (pc' := 5) rfl ?_
  rintro T110 h110 L110 X110 K110 -
  have sz_h110 := K110.1
  have K0_h110 : Keep h0 h110 [] := K0_h0.trans K110 all0
  refine k_iloadN X110 d_jdk_65_133_5 rfl (pc' := 6) rfl ?_
  refine k_iloadN X110 d_jdk_65_133_6 rfl (pc' := 7) rfl ?_
  refine k_isub X110 d_jdk_65_133_7 (w := (Int32.ofNat n)) own_subn (pc' := 8) rfl ?_
  refine k_istoreN X110 d_jdk_65_133_8 (Ls' := #[.val (.ref b), .val (.int (Int32.ofNat f)), .val (.int (Int32.ofNat (f + n))), .val (.int (Int32.ofNat n)), .unset]) rfl (pc' := 9) rfl ?_
  refine k_iloadN X110 d_jdk_65_133_9 rfl (pc' := 10) rfl ?_
  refine k_newP X110 d_jdk_65_133_10 (w_23 hw) (own_nn (by omega)) (cap := 6) (by rw [own_clamp (by omega)]; omega) (by decide) (by decide) (by decide) (pc' := 12) rfl fun T111 h111 b111 k111 g111 X111 K111 V111 S111 lt111 ge111 => ?_
  have sz_h111 := K111.1
  have K0_h111 : Keep h0 h111 [] := K0_h110.trans K111 all0
  have Vp : Arv Z h111 b111 k111 .byte (Int32.ofNat n) (List.replicate n (.int (0 : Int32))) (.int (0 : Int32)) := Arv.pad V111 (fun i => by simpa using pad_rep [] (.int (0 : Int32)) n i)
  refine k_astore X111 d_jdk_65_133_12 rfl (Ls' := #[.val (.ref b), .val (.int (Int32.ofNat f)), .val (.int (Int32.ofNat (f + n))), .val (.int (Int32.ofNat n)), .val (.ref b111)]) rfl (pc' := 14) rfl ?_
  refine k_aloadN X111 d_jdk_65_133_14 rfl rfl (pc' := 15) rfl ?_
  refine k_iloadN X111 d_jdk_65_133_15 rfl (pc' := 16) rfl ?_
  refine k_aload X111 d_jdk_65_133_16 rfl rfl (pc' := 18) rfl ?_
  refine k_iconst X111 d_jdk_65_133_18 (w := (0 : Int32)) rfl (pc' := 19) rfl ?_
  refine k_aloadN X111 d_jdk_65_133_19 rfl rfl (pc' := 20) rfl ?_
  have c112 := ((q0.keep K110 nin0).keep K111 nin0)
  refine k_arlen X111 d_jdk_65_133_20 c112 (pc' := 21) rfl ?_
  refine k_iloadN X111 d_jdk_65_133_21 rfl (pc' := 22) rfl ?_
  refine k_isub X111 d_jdk_65_133_22 (w := (Int32.ofNat (N - f))) (by rw [hz]; exact own_subm (by omega)) (pc' := 23) rfl ?_
  refine k_iloadN X111 d_jdk_65_133_23 rfl (pc' := 24) rfl ?_
  refine k_callSVF X111 (y := (⟨"java/lang/Math", "min", "(II)I"⟩ : MethodName)) d_jdk_65_133_24 (w_220 hw) (w_221 hw) (w_222 hw) (w_223 hw) (by decide) (argsL := [(.int (Int32.ofNat (N - f))), (.int (Int32.ofNat n))]) (rest := [(.int (0 : Int32)), (.ref b111), (.int (Int32.ofNat f)), (.ref b)]) (own_minc l Z a0 hw G n0 h111 X111.old (Int32.ofNat (N - f)) (Int32.ofNat n) ) rfl pd_7 rfl rfl (by decide) (W := 4) (Nat.le_of_eq rfl) (by decide) (by decide) (by decide) all0 (pc' := 27) rfl ?_
  rintro _ T113 h113 L113 X113 K113 ⟨rfl, -⟩
  have sz_h113 := K113.1
  have K0_h113 : Keep h0 h113 [] := K0_h111.trans K113 all0
  rw [own_min_r (show n ≤ N - f by omega) (by omega)]
  have en := own_clamp (show n < 2147483648 by omega)
  have ef := own_clamp (show f < 2147483648 by omega)
  have eN := own_clamp (show N < 2147483648 by omega)
  have e0 : (0 : Int32).toNatClampNeg = 0 := rfl
  have c115 := (c112.keep K113 nin0)
  have c116 := (Vp.keep K113 nin0)
  have ge117 : n0 ≤ b111 := by omega
  refine k_copy X113 d_jdk_65_133_27 (w_224 hw) (w_130 hw) (w_128 hw) (w_129 hw) c115 c116 (by decide) (own_nn (by omega)) (by decide) (own_nn (by omega)) (by rw [hz, ef, en, eN]; omega) (by rw [e0, en]; omega) (by rw [e0, en]; simp) (vd' := ((vs.drop f).take n)) (by rw [e0, en, ef]; exact own_cpy vs _ f n _ (by omega)) trivial ge117 rfl (by decide) (W := 0) (Nat.le_of_eq rfl) (by decide) (pc' := 30) rfl fun T118 h118 L118 X118 K118 V118 => ?_
  have sz_h118 := K118.1
  have od119 : h0.size ≤ b111 := by omega
  have K0_h118 : Keep h0 h118 [] := K0_h113.trans K118 (allS (Or.inr od119) all0)
  refine k_aload X118 d_jdk_65_133_30 rfl rfl (pc' := 32) rfl ?_
  exact k_retFA X118 d_jdk_65_133_32 rfl rfl rfl rfl K0_h118 ⟨_, rfl, _, _, rfl, V118, by omega⟩ (by decide) (by decide)
set_option maxRecDepth 65536 in
set_option maxHeartbeats 40000000 in
theorem own_cor (l : Launch) (Z : State) (a0 : Array Value) (hw : ∀ d ∈ tables_1, d.before a0 Z = true) {zc : Int32} {fm : Value}  (G : Gl Z zc fm) (n0 : Nat) (h0 : Heap) (O0 : Old Z n0 h0) (b : Nat) (kb : ClassId) (z : Int32) (vs : List Value) (N : Nat) (f : Nat) (n : Nat) (fv : Int32) (tv : Int32) (hz : z = Int32.ofNat N) (hvl : vs.length = N) (hfv : fv = Int32.ofNat f) (htv : tv = Int32.ofNat (f + n)) (hN : N < 1073741824) (hfn : f + n ≤ N) (hcap : n ≤ 6) (hne : ¬ (f = 0 ∧ n = N))  (q0 : Arv Z h0 b kb .byte z vs (.int (0 : Int32))) :
    MetF l [] Z n0 (⟨"java/util/Arrays", "copyOfRange", "([BII)[B"⟩ : MethodName) jdk_65_method_132_code 3 (Option.some (FieldType.array FieldType.byte)) ({ frames := 2, cells := 1, slots := 6, locals := 34 } : Room) #[(.ref b), (.int fv), (.int tv)] h0 [] (fun r h' => ∃ w, r = some w ∧ ∃ (t : Nat), ∃ (kt : ClassId), w = (.ref t) ∧ (Arv Z h' t kt .byte (Int32.ofNat n) ((vs.drop f).take n) (.int (0 : Int32))) ∧ (h0.size ≤ t)) := by
  refine metF (plainFor_of_name pn_4) O0 (Ls := #[.val (.ref b), .val (.int fv), .val (.int tv)]) (fun m => by first | (simp [entryFrame, mkF, argsToLocals, Value.category]; done) | rfl) ?_
  intro p e s m below meth c T0 X0
  have K0_h0 := Keep.refl h0 []
  have n0le := X0.n0le
  have ltq0 := own_n q0.lt
  obtain ⟨G_cs, G_zc, G_fm, isref_fm⟩ := id G
  refine k_iloadN X0 d_jdk_65_132_0 rfl (pc' := 1) rfl ?_
  by_cases hc120 : fv = (0 : Int32)
  · have hf0 : f = 0 := own_inj (by omega) (by decide) (hfv.symm.trans hc120)
    refine k_ifNo X0 d_jdk_65_132_1 ((if0 _ _).trans (teq hc120).2) (pc' := 4) rfl ?_
    refine k_iloadN X0 d_jdk_65_132_4 rfl (pc' := 5) rfl ?_
    refine k_aloadN X0 d_jdk_65_132_5 rfl rfl (pc' := 6) rfl ?_
    refine k_arlen X0 d_jdk_65_132_6 q0 (pc' := 7) rfl ?_
    have htz : ¬ tv = z := fun q => hne ⟨hf0, by have := own_inj (show f + n < 2147483648 by omega) (show N < 2147483648 by omega) (htv.symm.trans (q.trans hz)); omega⟩
    refine k_icmpNo X0 d_jdk_65_132_7 (feq htz).1 (pc' := 10) rfl ?_
    refine k_aloadN X0 d_jdk_65_132_10 rfl rfl (pc' := 11) rfl ?_
    refine k_iloadN X0 d_jdk_65_132_11 rfl (pc' := 12) rfl ?_
    refine k_iloadN X0 d_jdk_65_132_12 rfl (pc' := 13) rfl ?_
    refine k_callSVF X0 (y := (⟨"java/util/Arrays", "copyOfRangeByte", "([BII)[B"⟩ : MethodName)) d_jdk_65_132_13 (w_214 hw) (w_215 hw) (w_212 hw) (w_216 hw) (by decide) (argsL := [(.ref b), (.int fv), (.int tv)]) (rest := []) (own_corb l Z a0 hw G n0 h0 X0.old b kb z vs N f n fv tv hz hvl hfv htv hN hfn hcap q0) rfl pd_8 rfl rfl (by decide) (W := 0) (Nat.le_of_eq rfl) (by decide) (by decide) (by decide) all0 (pc' := 16) rfl ?_
    rintro _ T123 h123 L123 X123 K123 ⟨t_121, kt_122, rfl, q123_0, q123_1⟩
    have sz_h123 := K123.1
    have K0_h123 : Keep h0 h123 [] := K0_h0.trans K123 all0
    have lt123_0 := own_n q123_0.lt
    exact k_retFA X123 d_jdk_65_132_16 rfl rfl rfl rfl K0_h123 ⟨_, rfl, _, _, rfl, q123_0, by omega⟩ (by decide) (by decide)
  · refine k_ifYes X0 d_jdk_65_132_1 ((if0 _ _).trans (feq hc120).2) (pc' := 10) (by decide) (by decide) ?_
    refine k_aloadN X0 d_jdk_65_132_10 rfl rfl (pc' := 11) rfl ?_
    refine k_iloadN X0 d_jdk_65_132_11 rfl (pc' := 12) rfl ?_
    refine k_iloadN X0 d_jdk_65_132_12 rfl (pc' := 13) rfl ?_
    refine k_callSVF X0 (y := (⟨"java/util/Arrays", "copyOfRangeByte", "([BII)[B"⟩ : MethodName)) d_jdk_65_132_13 (w_214 hw) (w_215 hw) (w_212 hw) (w_216 hw) (by decide) (argsL := [(.ref b), (.int fv), (.int tv)]) (rest := []) (own_corb l Z a0 hw G n0 h0 X0.old b kb z vs N f n fv tv hz hvl hfv htv hN hfn hcap q0) rfl pd_8 rfl rfl (by decide) (W := 0) (Nat.le_of_eq rfl) (by decide) (by decide) (by decide) all0 (pc' := 16) rfl ?_
    rintro _ T127 h127 L127 X127 K127 ⟨t_125, kt_126, rfl, q127_0, q127_1⟩
    have sz_h127 := K127.1
    have K0_h127 : Keep h0 h127 [] := K0_h0.trans K127 all0
    have lt127_0 := own_n q127_0.lt
    exact k_retFA X127 d_jdk_65_132_16 rfl rfl rfl rfl K0_h127 ⟨_, rfl, _, _, rfl, q127_0, by omega⟩ (by decide) (by decide)
set_option maxRecDepth 65536 in
set_option maxHeartbeats 40000000 in
theorem own_cft (l : Launch) (Z : State) (a0 : Array Value) (hw : ∀ d ∈ tables_1, d.before a0 Z = true) {zc : Int32} {fm : Value}  (G : Gl Z zc fm) (n0 : Nat) (h0 : Heap) (O0 : Old Z n0 h0) (i : Int32) (j : Int32) (n : Int32) (f : Value) (hf : f.isRef = true) (hi0 : ¬ i < 0) (hi1 : ¬ j < i) (hi2 : ¬ n < j)   :
    MetF l [] Z n0 (⟨"jdk/internal/util/Preconditions", "checkFromToIndex", "(IIILjava/util/function/BiFunction;)I"⟩ : MethodName) jdk_41_method_12_code 4 (Option.some FieldType.int) ({ frames := 0, cells := 0, slots := 0, locals := 0 } : Room) #[(.int i), (.int j), (.int n), f] h0 [] (fun r h' => ∃ w, r = some w ∧ w = (.int i) ∧ True) := by
  rcases ref_cases hf with rfl | ⟨z, rfl⟩
  · refine metF (plainFor_of_name pn_5) O0 (Ls := #[.val (.int i), .val (.int j), .val (.int n), .val .null]) (fun m => by first | (simp [entryFrame, mkF, argsToLocals, Value.category]; done) | rfl) ?_
    intro p e s m below meth c T0 X0
    have K0_h0 := Keep.refl h0 []
    have n0le := X0.n0le
    obtain ⟨G_cs, G_zc, G_fm, isref_fm⟩ := id G
    refine k_iloadN X0 d_jdk_41_12_0 rfl (pc' := 1) rfl ?_
    refine k_ifNo X0 d_jdk_41_12_1 ((if0 _ _).trans (flt hi0).1) (pc' := 4) rfl ?_
    refine k_iloadN X0 d_jdk_41_12_4 rfl (pc' := 5) rfl ?_
    refine k_iloadN X0 d_jdk_41_12_5 rfl (pc' := 6) rfl ?_
    refine k_icmpNo X0 d_jdk_41_12_6 (flt hi1).2.2.1 (pc' := 9) rfl ?_
    refine k_iloadN X0 d_jdk_41_12_9 rfl (pc' := 10) rfl ?_
    refine k_iloadN X0 d_jdk_41_12_10 rfl (pc' := 11) rfl ?_
    refine k_icmpYes X0 d_jdk_41_12_11 (flt hi2).2.2.2 (pc' := 22) (by decide) (by decide) ?_
    refine k_iloadN X0 d_jdk_41_12_22 rfl (pc' := 23) rfl ?_
    exact k_retFI X0 d_jdk_41_12_23 rfl K0_h0 ⟨_, rfl, rfl, trivial⟩ (by decide) (by decide)
  · refine metF (plainFor_of_name pn_5) O0 (Ls := #[.val (.int i), .val (.int j), .val (.int n), .val (.ref z)]) (fun m => by first | (simp [entryFrame, mkF, argsToLocals, Value.category]; done) | rfl) ?_
    intro p e s m below meth c T0 X0
    have K0_h0 := Keep.refl h0 []
    have n0le := X0.n0le
    obtain ⟨G_cs, G_zc, G_fm, isref_fm⟩ := id G
    refine k_iloadN X0 d_jdk_41_12_0 rfl (pc' := 1) rfl ?_
    refine k_ifNo X0 d_jdk_41_12_1 ((if0 _ _).trans (flt hi0).1) (pc' := 4) rfl ?_
    refine k_iloadN X0 d_jdk_41_12_4 rfl (pc' := 5) rfl ?_
    refine k_iloadN X0 d_jdk_41_12_5 rfl (pc' := 6) rfl ?_
    refine k_icmpNo X0 d_jdk_41_12_6 (flt hi1).2.2.1 (pc' := 9) rfl ?_
    refine k_iloadN X0 d_jdk_41_12_9 rfl (pc' := 10) rfl ?_
    refine k_iloadN X0 d_jdk_41_12_10 rfl (pc' := 11) rfl ?_
    refine k_icmpYes X0 d_jdk_41_12_11 (flt hi2).2.2.2 (pc' := 22) (by decide) (by decide) ?_
    refine k_iloadN X0 d_jdk_41_12_22 rfl (pc' := 23) rfl ?_
    exact k_retFI X0 d_jdk_41_12_23 rfl K0_h0 ⟨_, rfl, rfl, trivial⟩ (by decide) (by decide)
set_option maxRecDepth 65536 in
set_option maxHeartbeats 40000000 in
theorem own_asbI (l : Launch) (Z : State) (a0 : Array Value) (hw : ∀ d ∈ tables_1, d.before a0 Z = true) {zc : Int32} {fm : Value}  (G : Gl Z zc fm) (n0 : Nat) (h0 : Heap) (O0 : Old Z n0 h0) (a : Nat) (gw0 : n0 ≤ a) (q0 : Exa Z h0 a "java/lang/StringBuilder") (q1 : Fld Z h0 a "java/lang/AbstractStringBuilder" "value" "[B" .null) (q2 : Fld Z h0 a "java/lang/AbstractStringBuilder" "coder" "B" (.int (0 : Int32))) (q3 : Fld Z h0 a "java/lang/AbstractStringBuilder" "count" "I" (.int (0 : Int32))) (q4 : Fld Z h0 a "java/lang/AbstractStringBuilder" "maybeLatin1" "Z" (.int (0 : Int32))) :
    MetF l [] Z n0 (⟨"java/lang/AbstractStringBuilder", "<init>", "(I)V"⟩ : MethodName) jdk_68_method_2_code 2 (Option.none : Option FieldType) ({ frames := 1, cells := 1, slots := 16, locals := 12 } : Room) #[(.ref a), (.int (16 : Int32))] h0 [a] (fun r h' => r = none ∧ ∃ (bv : Nat), ∃ (kb : ClassId), (Exa Z h' a "java/lang/StringBuilder") ∧ (Fld Z h' a "java/lang/AbstractStringBuilder" "value" "[B" (.ref bv)) ∧ (Fld Z h' a "java/lang/AbstractStringBuilder" "coder" "B" (.int (0 : Int32))) ∧ (Fld Z h' a "java/lang/AbstractStringBuilder" "count" "I" (.int (0 : Int32))) ∧ (Fld Z h' a "java/lang/AbstractStringBuilder" "maybeLatin1" "Z" (.int (0 : Int32))) ∧ (Arv Z h' bv kb .byte (16 : Int32) (own_lat (List.replicate 16 (0 : Int32))) (.int (0 : Int32))) ∧ (h0.size ≤ bv)) := by
  refine metF (plainFor_of_name pn_6) O0 (Ls := #[.val (.ref a), .val (.int (16 : Int32))]) (fun m => by first | (simp [entryFrame, mkF, argsToLocals, Value.category]; done) | rfl) ?_
  intro p e s m below meth c T0 X0
  have K0_h0 := Keep.refl h0 [a]
  have n0le := X0.n0le
  have ltq0 := own_n q0.lt
  have ltq1 := own_n q1.lt
  have ltq2 := own_n q2.lt
  have ltq3 := own_n q3.lt
  have ltq4 := own_n q4.lt
  obtain ⟨G_cs, G_zc, G_fm, isref_fm⟩ := id G
  refine k_aloadN X0 d_jdk_68_2_0 rfl rfl (pc' := 1) rfl ?_
  refine k_initO X0 d_jdk_68_2_1 (w_55 hw) (w_16 hw) (w_17 hw) rfl (by decide) (W := 0) (Nat.le_of_eq rfl) (by decide) (pc' := 4) rfl fun T145 X146 => ?_
  refine k_getS X146 d_jdk_68_2_4 (host := "") (Or.inl (w_56 hw)) Via.refl (G_cs.ext X146.old.2) (pc' := 7) rfl fun T147 X148 => ?_
  refine k_ifNo X148 d_jdk_68_2_7 ((if0 _ _).trans (feq G_zc).1) (pc' := 10) rfl ?_
  refine k_aloadN X148 d_jdk_68_2_10 rfl rfl (pc' := 11) rfl ?_
  refine k_iloadN X148 d_jdk_68_2_11 rfl (pc' := 12) rfl ?_
  refine k_newP X148 d_jdk_68_2_12 (w_23 hw) (by decide) (cap := 16) (by decide) (by decide) (by decide) (by decide) (pc' := 14) rfl fun T149 h149 b149 k149 g149 X149 K149 V149 S149 lt149 ge149 => ?_
  have sz_h149 := K149.1
  have K0_h149 : Keep h0 h149 [a] := K0_h0.trans K149 all0
  have V149' : Arv Z h149 b149 k149 .byte (16 : Int32) [(.int (0 : Int32)), (.int (0 : Int32)), (.int (0 : Int32)), (.int (0 : Int32)), (.int (0 : Int32)), (.int (0 : Int32)), (.int (0 : Int32)), (.int (0 : Int32)), (.int (0 : Int32)), (.int (0 : Int32)), (.int (0 : Int32)), (.int (0 : Int32)), (.int (0 : Int32)), (.int (0 : Int32)), (.int (0 : Int32)), (.int (0 : Int32))] (.int (0 : Int32)) := Arv.pad V149 (pad_rep [] (.int (0 : Int32)) 16)
  have Vq : Arv Z h149 b149 k149 .byte (16 : Int32) (own_lat (List.replicate 16 (0 : Int32))) (.int (0 : Int32)) := Arv.pad V149 (fun i => by rw [own_lat0]; simpa using pad_rep [] (.int (0 : Int32)) 16 i)
  have c150 := (q1.keep K149 nin0)
  have c151 := (q0.keep K149)
  have ge153 : n0 ≤ a := by omega
  refine k_putF X149 d_jdk_68_2_14 (host := "") (Or.inl (w_57 hw)) Via.refl c150 c151 (Or.inl (w_58 hw)) (w_44 hw) (ty := (.array .byte)) (by decide) rfl rfl trivial ge153 (pc' := 17) rfl fun T152 h152 L152 X152 W152 K152 => ?_
  have sz_h152 := K152.1
  have K0_h152 : Keep h0 h152 [a] := K0_h149.trans K152 (allS (Or.inl (List.mem_of_getElem? (i := 0) rfl)) all0)
  have F152 := c150.same W152
  refine k_aloadN X152 d_jdk_68_2_17 rfl rfl (pc' := 18) rfl ?_
  refine k_iconst X152 d_jdk_68_2_18 (w := (0 : Int32)) rfl (pc' := 19) rfl ?_
  have c154 := ((q2.keep K149 nin0).other W152 (Or.inr (slot_ne (Or.inl (w_60 hw)) (Or.inl (w_58 hw)) (by decide) (t := .byte) (t' := (.array .byte)) (by decide) (by decide))))
  have c155 := (c151.keep K152)
  refine k_putF X152 d_jdk_68_2_19 (host := "") (Or.inl (w_59 hw)) Via.refl c154 c155 (Or.inl (w_60 hw)) (w_44 hw) (ty := .byte) (by decide) rfl rfl trivial ge153 (pc' := 22) rfl fun T156 h156 L156 X156 W156 K156 => ?_
  have sz_h156 := K156.1
  have K0_h156 : Keep h0 h156 [a] := K0_h152.trans K156 (allS (Or.inl (List.mem_of_getElem? (i := 0) rfl)) all0)
  have F156 := c154.same W156
  refine k_goto X156 d_jdk_68_2_22 (pc' := 38) (by decide) (by decide) ?_
  have c157 := (c155.keep K156)
  have c158 := (F152.other W156 (Or.inr (slot_ne (Or.inl (w_58 hw)) (Or.inl (w_60 hw)) (by decide) (t := (.array .byte)) (t' := .byte) (by decide) (by decide))))
  have c159 := (((q3.keep K149 nin0).other W152 (Or.inr (slot_ne (Or.inl (w_86 hw)) (Or.inl (w_58 hw)) (by decide) (t := .int) (t' := (.array .byte)) (by decide) (by decide)))).other W156 (Or.inr (slot_ne (Or.inl (w_86 hw)) (Or.inl (w_60 hw)) (by decide) (t := .int) (t' := .byte) (by decide) (by decide))))
  have c160 := (((q4.keep K149 nin0).other W152 (Or.inr (slot_ne (Or.inl (w_208 hw)) (Or.inl (w_58 hw)) (by decide) (t := .boolean) (t' := (.array .byte)) (by decide) (by decide)))).other W156 (Or.inr (slot_ne (Or.inl (w_208 hw)) (Or.inl (w_60 hw)) (by decide) (t := .boolean) (t' := .byte) (by decide) (by decide))))
  have ne161 : (b149 : Nat) ≠ a := own_ne (by omega)
  have c162 := ((Vq.keep K152 (ninS ne161 nin0)).keep K156 (ninS ne161 nin0))
  exact k_retFV X156 d_jdk_68_2_38 rfl K0_h156 ⟨rfl, _, _, c157, c158, F156, c159, c160, c162, by omega⟩ (by decide) (by decide)
set_option maxRecDepth 65536 in
set_option maxHeartbeats 40000000 in
theorem own_sbI (l : Launch) (Z : State) (a0 : Array Value) (hw : ∀ d ∈ tables_1, d.before a0 Z = true) {zc : Int32} {fm : Value}  (G : Gl Z zc fm) (n0 : Nat) (h0 : Heap) (O0 : Old Z n0 h0) (a : Nat) (gw0 : n0 ≤ a) (q0 : Exa Z h0 a "java/lang/StringBuilder") (q1 : Fld Z h0 a "java/lang/AbstractStringBuilder" "value" "[B" .null) (q2 : Fld Z h0 a "java/lang/AbstractStringBuilder" "coder" "B" (.int (0 : Int32))) (q3 : Fld Z h0 a "java/lang/AbstractStringBuilder" "count" "I" (.int (0 : Int32))) (q4 : Fld Z h0 a "java/lang/AbstractStringBuilder" "maybeLatin1" "Z" (.int (0 : Int32))) :
    MetF l [] Z n0 (⟨"java/lang/StringBuilder", "<init>", "()V"⟩ : MethodName) jdk_67_method_1_code 1 (Option.none : Option FieldType) ({ frames := 2, cells := 1, slots := 16, locals := 25 } : Room) #[(.ref a)] h0 [a] (fun r h' => r = none ∧ ∃ (bv : Nat), ∃ (kb : ClassId), (Exa Z h' a "java/lang/StringBuilder") ∧ (Fld Z h' a "java/lang/AbstractStringBuilder" "value" "[B" (.ref bv)) ∧ (Fld Z h' a "java/lang/AbstractStringBuilder" "coder" "B" (.int (0 : Int32))) ∧ (Fld Z h' a "java/lang/AbstractStringBuilder" "count" "I" (.int (0 : Int32))) ∧ (Fld Z h' a "java/lang/AbstractStringBuilder" "maybeLatin1" "Z" (.int (0 : Int32))) ∧ (Arv Z h' bv kb .byte (16 : Int32) (own_lat (List.replicate 16 (0 : Int32))) (.int (0 : Int32))) ∧ (h0.size ≤ bv)) := by
  refine metF (plainFor_of_name pn_7) O0 (Ls := #[.val (.ref a)]) (fun m => by first | (simp [entryFrame, mkF, argsToLocals, Value.category]; done) | rfl) ?_
  intro p e s m below meth c T0 X0
  have K0_h0 := Keep.refl h0 [a]
  have n0le := X0.n0le
  have ltq0 := own_n q0.lt
  have ltq1 := own_n q1.lt
  have ltq2 := own_n q2.lt
  have ltq3 := own_n q3.lt
  have ltq4 := own_n q4.lt
  obtain ⟨G_cs, G_zc, G_fm, isref_fm⟩ := id G
  refine k_aloadN X0 d_jdk_67_1_0 rfl rfl (pc' := 1) rfl ?_
  refine k_bipush X0 d_jdk_67_1_1 (w := (16 : Int32)) rfl (pc' := 3) rfl ?_
  have ge163 : n0 ≤ a := by omega
  refine k_callPNF X0 (y := (⟨"java/lang/AbstractStringBuilder", "<init>", "(I)V"⟩ : MethodName)) d_jdk_67_1_3 (w_49 hw) (w_50 hw) (w_53 hw) (w_54 hw) (by decide) rfl rfl (argsL := [(.int (16 : Int32))]) (rest := []) (own_asbI l Z a0 hw G n0 h0 X0.old a ge163 q0 q1 q2 q3 q4) rfl pd_9 rfl rfl (by decide) (W := 0) (Nat.le_of_eq rfl) (by decide) (by decide) (by decide) (allS ⟨trivial, ge163⟩ all0) (pc' := 6) rfl ?_
  rintro T166 h166 L166 X166 K166 ⟨bv_164, kb_165, q166_0, q166_1, q166_2, q166_3, q166_4, q166_5, q166_6⟩
  have sz_h166 := K166.1
  have K0_h166 : Keep h0 h166 [a] := K0_h0.trans K166 (allS (Or.inl (List.mem_of_getElem? (i := 0) rfl)) all0)
  have lt166_0 := own_n q166_0.lt
  have lt166_1 := own_n q166_1.lt
  have lt166_2 := own_n q166_2.lt
  have lt166_3 := own_n q166_3.lt
  have lt166_4 := own_n q166_4.lt
  have lt166_5 := own_n q166_5.lt
  exact k_retFV X166 d_jdk_67_1_6 rfl K0_h166 ⟨rfl, _, _, q166_0, q166_1, q166_2, q166_3, q166_4, q166_5, by omega⟩ (by decide) (by decide)
set_option maxRecDepth 65536 in
set_option maxHeartbeats 40000000 in
theorem own_asbL (l : Launch) (Z : State) (a0 : Array Value) (hw : ∀ d ∈ tables_1, d.before a0 Z = true) {zc : Int32} {fm : Value}  (G : Gl Z zc fm) (n0 : Nat) (h0 : Heap) (O0 : Old Z n0 h0) (a : Nat) (nv : Int32)  (q0 : Exa Z h0 a "java/lang/StringBuilder") (q1 : Fld Z h0 a "java/lang/AbstractStringBuilder" "count" "I" (.int nv)) :
    MetF l [] Z n0 (⟨"java/lang/AbstractStringBuilder", "length", "()I"⟩ : MethodName) jdk_68_method_6_code 1 (Option.some FieldType.int) ({ frames := 0, cells := 0, slots := 0, locals := 0 } : Room) #[(.ref a)] h0 [] (fun r h' => ∃ w, r = some w ∧ w = (.int nv) ∧ True) := by
  refine metF (plainFor_of_name pn_6) O0 (Ls := #[.val (.ref a)]) (fun m => by first | (simp [entryFrame, mkF, argsToLocals, Value.category]; done) | rfl) ?_
  intro p e s m below meth c T0 X0
  have K0_h0 := Keep.refl h0 []
  have n0le := X0.n0le
  have ltq0 := own_n q0.lt
  have ltq1 := own_n q1.lt
  obtain ⟨G_cs, G_zc, G_fm, isref_fm⟩ := id G
  refine k_aloadN X0 d_jdk_68_6_0 rfl rfl (pc' := 1) rfl ?_
  refine k_getF X0 d_jdk_68_6_1 (host := "") (Or.inl (w_85 hw)) Via.refl q1 (pc' := 4) rfl fun T167 X168 => ?_
  exact k_retFI X168 d_jdk_68_6_4 rfl K0_h0 ⟨_, rfl, rfl, trivial⟩ (by decide) (by decide)
set_option maxRecDepth 65536 in
set_option maxHeartbeats 40000000 in
theorem own_sbL (l : Launch) (Z : State) (a0 : Array Value) (hw : ∀ d ∈ tables_1, d.before a0 Z = true) {zc : Int32} {fm : Value}  (G : Gl Z zc fm) (n0 : Nat) (h0 : Heap) (O0 : Old Z n0 h0) (a : Nat) (nv : Int32)  (q0 : Exa Z h0 a "java/lang/StringBuilder") (q1 : Fld Z h0 a "java/lang/AbstractStringBuilder" "count" "I" (.int nv)) :
    MetF l [] Z n0 (⟨"java/lang/StringBuilder", "length", "()I"⟩ : MethodName) jdk_67_method_93_code 1 (Option.some FieldType.int) ({ frames := 1, cells := 0, slots := 0, locals := 12 } : Room) #[(.ref a)] h0 [] (fun r h' => ∃ w, r = some w ∧ w = (.int nv) ∧ True) := by
  refine metF (plainFor_of_name pn_7) O0 (Ls := #[.val (.ref a)]) (fun m => by first | (simp [entryFrame, mkF, argsToLocals, Value.category]; done) | rfl) ?_
  intro p e s m below meth c T0 X0
  have K0_h0 := Keep.refl h0 []
  have n0le := X0.n0le
  have ltq0 := own_n q0.lt
  have ltq1 := own_n q1.lt
  obtain ⟨G_cs, G_zc, G_fm, isref_fm⟩ := id G
  refine k_aloadN X0 d_jdk_67_93_0 rfl rfl (pc' := 1) rfl ?_
  refine k_callUVF X0 (y := (⟨"java/lang/AbstractStringBuilder", "length", "()I"⟩ : MethodName)) d_jdk_67_93_1 (w_80 hw) (w_81 hw) (w_109 hw) rfl (w_82 hw) (w_53 hw) (w_84 hw) (by decide) (by decide) (Ins.self q0) (argsL := []) (rest := []) (own_asbL l Z a0 hw G n0 h0 X0.old a nv q0 q1) rfl pd_10 rfl rfl (by decide) (W := 0) (Nat.le_of_eq rfl) (by decide) (by decide) (by decide) all0 (pc' := 4) rfl ?_
  rintro _ T169 h169 L169 X169 K169 ⟨rfl, -⟩
  have sz_h169 := K169.1
  have K0_h169 : Keep h0 h169 [] := K0_h0.trans K169 all0
  exact k_retFI X169 d_jdk_67_93_4 rfl K0_h169 ⟨_, rfl, rfl, trivial⟩ (by decide) (by decide)
set_option maxRecDepth 65536 in
set_option maxHeartbeats 40000000 in
theorem own_asbLat (l : Launch) (Z : State) (a0 : Array Value) (hw : ∀ d ∈ tables_1, d.before a0 Z = true) {zc : Int32} {fm : Value}  (G : Gl Z zc fm) (n0 : Nat) (h0 : Heap) (O0 : Old Z n0 h0) (a : Nat)  (q0 : Fld Z h0 a "java/lang/AbstractStringBuilder" "coder" "B" (.int (0 : Int32))) :
    MetF l [] Z n0 (⟨"java/lang/AbstractStringBuilder", "isLatin1", "()Z"⟩ : MethodName) jdk_68_method_68_code 1 (Option.some FieldType.boolean) ({ frames := 0, cells := 0, slots := 0, locals := 0 } : Room) #[(.ref a)] h0 [] (fun r h' => ∃ w, r = some w ∧ w = (.int (1 : Int32)) ∧ True) := by
  refine metF (plainFor_of_name pn_6) O0 (Ls := #[.val (.ref a)]) (fun m => by first | (simp [entryFrame, mkF, argsToLocals, Value.category]; done) | rfl) ?_
  intro p e s m below meth c T0 X0
  have K0_h0 := Keep.refl h0 []
  have n0le := X0.n0le
  have ltq0 := own_n q0.lt
  obtain ⟨G_cs, G_zc, G_fm, isref_fm⟩ := id G
  refine k_getS X0 d_jdk_68_68_0 (host := "") (Or.inl (w_56 hw)) Via.refl (G_cs.ext X0.old.2) (pc' := 3) rfl fun T171 X172 => ?_
  refine k_ifNo X172 d_jdk_68_68_3 ((if0 _ _).trans (feq G_zc).1) (pc' := 6) rfl ?_
  refine k_aloadN X172 d_jdk_68_68_6 rfl rfl (pc' := 7) rfl ?_
  refine k_getF X172 d_jdk_68_68_7 (host := "") (Or.inl (w_59 hw)) Via.refl q0 (pc' := 10) rfl fun T173 X174 => ?_
  refine k_ifNo X174 d_jdk_68_68_10 (by decide) (pc' := 13) rfl ?_
  refine k_iconst X174 d_jdk_68_68_13 (w := (1 : Int32)) rfl (pc' := 14) rfl ?_
  refine k_goto X174 d_jdk_68_68_14 (pc' := 18) (by decide) (by decide) ?_
  exact k_retFN X174 (w := (1 : Int32)) d_jdk_68_68_18 (t := .boolean) rfl (by simp) rfl K0_h0 ⟨_, rfl, rfl, trivial⟩ (by decide) (by decide)
set_option maxRecDepth 65536 in
set_option maxHeartbeats 40000000 in
theorem own_ens (l : Launch) (Z : State) (a0 : Array Value) (hw : ∀ d ∈ tables_1, d.before a0 Z = true) {zc : Int32} {fm : Value}  (G : Gl Z zc fm) (n0 : Nat) (h0 : Heap) (O0 : Old Z n0 h0) (a : Nat) (k : Nat) (kv : Int32) (bv : Nat) (kb : ClassId) (bs : List Value) (dv : Value) (hkv : kv = Int32.ofNat k) (hk : k ≤ 16)  (q0 : Fld Z h0 a "java/lang/AbstractStringBuilder" "value" "[B" (.ref bv)) (q1 : Fld Z h0 a "java/lang/AbstractStringBuilder" "coder" "B" (.int (0 : Int32))) (q2 : Arv Z h0 bv kb .byte (16 : Int32) bs dv) :
    MetF l [] Z n0 (⟨"java/lang/AbstractStringBuilder", "ensureCapacityInternal", "(I)V"⟩ : MethodName) jdk_68_method_9_code 3 (Option.none : Option FieldType) ({ frames := 0, cells := 0, slots := 0, locals := 0 } : Room) #[(.ref a), (.int kv)] h0 [] (fun r h' => r = none ∧ True) := by
  refine metF (plainFor_of_name pn_6) O0 (Ls := #[.val (.ref a), .val (.int kv), .unset]) (fun m => by first | (simp [entryFrame, mkF, argsToLocals, Value.category]; done) | rfl) ?_
  intro p e s m below meth c T0 X0
  have K0_h0 := Keep.refl h0 []
  have n0le := X0.n0le
  have ltq0 := own_n q0.lt
  have ltq1 := own_n q1.lt
  have ltq2 := own_n q2.lt
  obtain ⟨G_cs, G_zc, G_fm, isref_fm⟩ := id G
  refine k_aloadN X0 d_jdk_68_9_0 rfl rfl (pc' := 1) rfl ?_
  refine k_getF X0 d_jdk_68_9_1 (host := "") (Or.inl (w_57 hw)) Via.refl q0 (pc' := 4) rfl fun T175 X176 => ?_
  refine k_arlen X176 d_jdk_68_9_4 q2 (pc' := 5) rfl ?_
  refine k_aloadN X176 d_jdk_68_9_5 rfl rfl (pc' := 6) rfl ?_
  refine k_getF X176 d_jdk_68_9_6 (host := "") (Or.inl (w_59 hw)) Via.refl q1 (pc' := 9) rfl fun T177 X178 => ?_
  refine k_ishr X178 d_jdk_68_9_9 (w := (16 : Int32)) (by decide) (pc' := 10) rfl ?_
  refine k_istoreN X178 d_jdk_68_9_10 (Ls' := #[.val (.ref a), .val (.int kv), .val (.int (16 : Int32))]) rfl (pc' := 11) rfl ?_
  refine k_iloadN X178 d_jdk_68_9_11 rfl (pc' := 12) rfl ?_
  refine k_iloadN X178 d_jdk_68_9_12 rfl (pc' := 13) rfl ?_
  refine k_isub X178 d_jdk_68_9_13 (w := (kv - (16 : Int32))) rfl (pc' := 14) rfl ?_
  refine k_ifYes X178 d_jdk_68_9_14 ((if0 _ _).trans (flt (by rw [hkv]; exact own_le16 hk (by decide))).2.2.2) (pc' := 38) (by decide) (by decide) ?_
  exact k_retFV X178 d_jdk_68_9_38 rfl K0_h0 ⟨rfl, trivial⟩ (by decide) (by decide)
set_option maxRecDepth 65536 in
set_option maxHeartbeats 40000000 in
theorem own_infl (l : Launch) (Z : State) (a0 : Array Value) (hw : ∀ d ∈ tables_1, d.before a0 Z = true) {zc : Int32} {fm : Value}  (G : Gl Z zc fm) (n0 : Nat) (h0 : Heap) (O0 : Old Z n0 h0) (a : Nat) (x : Nat)  (q0 : Fld Z h0 a "java/lang/AbstractStringBuilder" "coder" "B" (.int (0 : Int32))) (q1 : Exa Z h0 x "java/lang/String") (q2 : Fld Z h0 x "java/lang/String" "coder" "B" (.int (0 : Int32))) :
    MetF l [] Z n0 (⟨"java/lang/AbstractStringBuilder", "inflateIfNeededFor", "(Ljava/lang/String;)V"⟩ : MethodName) jdk_68_method_71_code 2 (Option.none : Option FieldType) ({ frames := 1, cells := 0, slots := 0, locals := 13 } : Room) #[(.ref a), (.ref x)] h0 [] (fun r h' => r = none ∧ True) := by
  refine metF (plainFor_of_name pn_6) O0 (Ls := #[.val (.ref a), .val (.ref x)]) (fun m => by first | (simp [entryFrame, mkF, argsToLocals, Value.category]; done) | rfl) ?_
  intro p e s m below meth c T0 X0
  have K0_h0 := Keep.refl h0 []
  have n0le := X0.n0le
  have ltq0 := own_n q0.lt
  have ltq1 := own_n q1.lt
  have ltq2 := own_n q2.lt
  obtain ⟨G_cs, G_zc, G_fm, isref_fm⟩ := id G
  refine k_getS X0 d_jdk_68_71_0 (host := "") (Or.inl (w_56 hw)) Via.refl (G_cs.ext X0.old.2) (pc' := 3) rfl fun T179 X180 => ?_
  refine k_ifNo X180 d_jdk_68_71_3 ((if0 _ _).trans (feq G_zc).1) (pc' := 6) rfl ?_
  refine k_aloadN X180 d_jdk_68_71_6 rfl rfl (pc' := 7) rfl ?_
  refine k_getF X180 d_jdk_68_71_7 (host := "") (Or.inl (w_59 hw)) Via.refl q0 (pc' := 10) rfl fun T181 X182 => ?_
  refine k_aloadN X182 d_jdk_68_71_10 rfl rfl (pc' := 11) rfl ?_
  refine k_callVVF X182 (y := (⟨"java/lang/String", "coder", "()B"⟩ : MethodName)) d_jdk_68_71_11 (w_121 hw) (w_102 hw) (w_104 hw) (w_103 hw) (w_6 hw) (w_105 hw) (by decide) (notFace_of_selects (args := #[]) (mvT X182.hZ (w_104 hw))) q1 (argsL := []) (rest := [(.int (0 : Int32))]) (own_coder l Z a0 hw G n0 h0 X182.old x (0 : Int32) (Or.inl rfl) q2) rfl pd_4 rfl rfl (by decide) (W := 1) (Nat.le_of_eq rfl) (by decide) (by decide) (by decide) all0 (pc' := 14) rfl ?_
  rintro _ T183 h183 L183 X183 K183 ⟨rfl, -⟩
  have sz_h183 := K183.1
  have K0_h183 : Keep h0 h183 [] := K0_h0.trans K183 all0
  refine k_icmpYes X183 d_jdk_68_71_14 (by decide) (pc' := 21) (by decide) (by decide) ?_
  exact k_retFV X183 d_jdk_68_71_21 rfl K0_h183 ⟨rfl, trivial⟩ (by decide) (by decide)
set_option maxRecDepth 65536 in
set_option maxHeartbeats 40000000 in
theorem own_getB (l : Launch) (Z : State) (a0 : Array Value) (hw : ∀ d ∈ tables_1, d.before a0 Z = true) {zc : Int32} {fm : Value}  (G : Gl Z zc fm) (n0 : Nat) (h0 : Heap) (O0 : Old Z n0 h0) (x : Nat) (d : Nat) (kd : ClassId) (B : List Int32) (t : Nat) (kt : ClassId) (cs : List Int32) (pq : Nat) (pv : Int32) (hpv : pv = Int32.ofNat pq) (hBl : B.length = 16) (hpc : pq + cs.length ≤ 16) (hcl : cs.length < 1000000) (gw0 : n0 ≤ d) (q0 : Exa Z h0 x "java/lang/String") (q1 : Fld Z h0 x "java/lang/String" "value" "[B" (.ref t)) (q2 : Fld Z h0 x "java/lang/String" "coder" "B" (.int (0 : Int32))) (q3 : Arv Z h0 t kt .byte (Int32.ofNat cs.length) (own_lat cs) (.int (0 : Int32))) (q4 : Arv Z h0 d kd .byte (16 : Int32) (own_lat B) (.int (0 : Int32))) :
    MetF l [] Z n0 (⟨"java/lang/String", "getBytes", "([BIB)V"⟩ : MethodName) jdk_42_method_147_code 4 (Option.none : Option FieldType) ({ frames := 1, cells := 0, slots := 0, locals := 18 } : Room) #[(.ref x), (.ref d), (.int pv), (.int (0 : Int32))] h0 [d] (fun r h' => r = none ∧ (Arv Z h' d kd .byte (16 : Int32) (own_lat (own_put B pq cs)) (.int (0 : Int32)))) := by
  refine metF (plainFor_of_name pn_1) O0 (Ls := #[.val (.ref x), .val (.ref d), .val (.int pv), .val (.int (0 : Int32))]) (fun m => by first | (simp [entryFrame, mkF, argsToLocals, Value.category]; done) | rfl) ?_
  intro p e s m below meth c T0 X0
  have K0_h0 := Keep.refl h0 [d]
  have n0le := X0.n0le
  have ltq0 := own_n q0.lt
  have ltq1 := own_n q1.lt
  have ltq2 := own_n q2.lt
  have ltq3 := own_n q3.lt
  have ltq4 := own_n q4.lt
  obtain ⟨G_cs, G_zc, G_fm, isref_fm⟩ := id G
  refine k_aloadN X0 d_jdk_42_147_0 rfl rfl (pc' := 1) rfl ?_
  refine k_callVVF X0 (y := (⟨"java/lang/String", "coder", "()B"⟩ : MethodName)) d_jdk_42_147_1 (w_101 hw) (w_102 hw) (w_104 hw) (w_103 hw) (w_6 hw) (w_105 hw) (by decide) (notFace_of_selects (args := #[]) (mvT X0.hZ (w_104 hw))) q0 (argsL := []) (rest := []) (own_coder l Z a0 hw G n0 h0 X0.old x (0 : Int32) (Or.inl rfl) q2) rfl pd_4 rfl rfl (by decide) (W := 0) (Nat.le_of_eq rfl) (by decide) (by decide) (by decide) all0 (pc' := 4) rfl ?_
  rintro _ T185 h185 L185 X185 K185 ⟨rfl, -⟩
  have sz_h185 := K185.1
  have K0_h185 : Keep h0 h185 [d] := K0_h0.trans K185 all0
  refine k_iloadN X185 d_jdk_42_147_4 rfl (pc' := 5) rfl ?_
  refine k_icmpNo X185 d_jdk_42_147_5 (by decide) (pc' := 8) rfl ?_
  refine k_aloadN X185 d_jdk_42_147_8 rfl rfl (pc' := 9) rfl ?_
  have c187 := (q1.keep K185 nin0)
  refine k_getF X185 d_jdk_42_147_9 (host := "") (Or.inl (w_32 hw)) Via.refl c187 (pc' := 12) rfl fun T188 X189 => ?_
  refine k_iconst X189 d_jdk_42_147_12 (w := (0 : Int32)) rfl (pc' := 13) rfl ?_
  refine k_aloadN X189 d_jdk_42_147_13 rfl rfl (pc' := 14) rfl ?_
  refine k_iloadN X189 d_jdk_42_147_14 rfl (pc' := 15) rfl ?_
  refine k_iloadN X189 d_jdk_42_147_15 rfl (pc' := 16) rfl ?_
  refine k_ishl X189 d_jdk_42_147_16 (w := pv) (own_shl0 pv) (pc' := 17) rfl ?_
  refine k_aloadN X189 d_jdk_42_147_17 rfl rfl (pc' := 18) rfl ?_
  refine k_getF X189 d_jdk_42_147_18 (host := "") (Or.inl (w_32 hw)) Via.refl c187 (pc' := 21) rfl fun T190 X191 => ?_
  have c192 := (q3.keep K185 nin0)
  refine k_arlen X191 d_jdk_42_147_21 c192 (pc' := 22) rfl ?_
  have ep : pv.toNatClampNeg = pq := by rw [hpv]; exact own_clamp (by omega)
  have ec := own_clamp (show cs.length < 2147483648 by omega)
  have e0 : (0 : Int32).toNatClampNeg = 0 := rfl
  have eN : ((16 : Int32)).toNatClampNeg = 16 := rfl
  have c193 := (q4.keep K185 nin0)
  have ge194 : n0 ≤ d := by omega
  refine k_copy X191 d_jdk_42_147_22 (w_127 hw) (w_130 hw) (w_128 hw) (w_129 hw) c192 c193 (by decide) (by decide) (by rw [hpv]; exact own_nn (by omega)) (own_nn (by omega)) (by rw [e0, ec]; omega) (by rw [ep, ec, eN]; omega) (by rw [ep, ec, own_latlen]; omega) (vd' := (own_lat (own_put B pq cs))) (by rw [ep, ec, e0]; exact own_put_cpy B cs pq (by omega)) trivial ge194 rfl (by decide) (W := 0) (Nat.le_of_eq rfl) (by decide) (pc' := 25) rfl fun T195 h195 L195 X195 K195 V195 => ?_
  have sz_h195 := K195.1
  have K0_h195 : Keep h0 h195 [d] := K0_h185.trans K195 (allS (Or.inl (List.mem_of_getElem? (i := 0) rfl)) all0)
  refine k_goto X195 d_jdk_42_147_25 (pc' := 43) (by decide) (by decide) ?_
  exact k_retFV X195 d_jdk_42_147_43 rfl K0_h195 ⟨rfl, V195⟩ (by decide) (by decide)
set_option maxRecDepth 65536 in
set_option maxHeartbeats 40000000 in
theorem own_putS (l : Launch) (Z : State) (a0 : Array Value) (hw : ∀ d ∈ tables_1, d.before a0 Z = true) {zc : Int32} {fm : Value}  (G : Gl Z zc fm) (n0 : Nat) (h0 : Heap) (O0 : Old Z n0 h0) (a : Nat) (x : Nat) (bv : Nat) (kb : ClassId) (B : List Int32) (t : Nat) (kt : ClassId) (cs : List Int32) (pq : Nat) (pv : Int32) (hpv : pv = Int32.ofNat pq) (hBl : B.length = 16) (hpc : pq + cs.length ≤ 16) (hcl : cs.length < 1000000) (gw0 : n0 ≤ bv) (q0 : Exa Z h0 a "java/lang/StringBuilder") (q1 : Fld Z h0 a "java/lang/AbstractStringBuilder" "value" "[B" (.ref bv)) (q2 : Fld Z h0 a "java/lang/AbstractStringBuilder" "coder" "B" (.int (0 : Int32))) (q3 : Arv Z h0 bv kb .byte (16 : Int32) (own_lat B) (.int (0 : Int32))) (q4 : Exa Z h0 x "java/lang/String") (q5 : Fld Z h0 x "java/lang/String" "value" "[B" (.ref t)) (q6 : Fld Z h0 x "java/lang/String" "coder" "B" (.int (0 : Int32))) (q7 : Arv Z h0 t kt .byte (Int32.ofNat cs.length) (own_lat cs) (.int (0 : Int32))) :
    MetF l [] Z n0 (⟨"java/lang/AbstractStringBuilder", "putStringAt", "(ILjava/lang/String;)V"⟩ : MethodName) jdk_68_method_73_code 3 (Option.none : Option FieldType) ({ frames := 2, cells := 0, slots := 0, locals := 33 } : Room) #[(.ref a), (.int pv), (.ref x)] h0 [bv] (fun r h' => r = none ∧ (Arv Z h' bv kb .byte (16 : Int32) (own_lat (own_put B pq cs)) (.int (0 : Int32)))) := by
  refine metF (plainFor_of_name pn_6) O0 (Ls := #[.val (.ref a), .val (.int pv), .val (.ref x)]) (fun m => by first | (simp [entryFrame, mkF, argsToLocals, Value.category]; done) | rfl) ?_
  intro p e s m below meth c T0 X0
  have K0_h0 := Keep.refl h0 [bv]
  have n0le := X0.n0le
  have ltq0 := own_n q0.lt
  have ltq1 := own_n q1.lt
  have ltq2 := own_n q2.lt
  have ltq3 := own_n q3.lt
  have ltq4 := own_n q4.lt
  have ltq5 := own_n q5.lt
  have ltq6 := own_n q6.lt
  have ltq7 := own_n q7.lt
  obtain ⟨G_cs, G_zc, G_fm, isref_fm⟩ := id G
  refine k_aloadN X0 d_jdk_68_73_0 rfl rfl (pc' := 1) rfl ?_
  refine k_aloadN X0 d_jdk_68_73_1 rfl rfl (pc' := 2) rfl ?_
  refine k_callQNF X0 (y := (⟨"java/lang/AbstractStringBuilder", "inflateIfNeededFor", "(Ljava/lang/String;)V"⟩ : MethodName)) d_jdk_68_73_2 (w_116 hw) (w_117 hw) (w_119 hw) (w_118 hw) (w_53 hw) (w_120 hw) (by decide) q0 (argsL := [(.ref x)]) (rest := []) (own_infl l Z a0 hw G n0 h0 X0.old a x q2 q4 q6) rfl pd_11 rfl rfl (by decide) (W := 0) (Nat.le_of_eq rfl) (by decide) (by decide) (by decide) all0 (pc' := 5) rfl ?_
  rintro T196 h196 L196 X196 K196 -
  have sz_h196 := K196.1
  have K0_h196 : Keep h0 h196 [bv] := K0_h0.trans K196 all0
  refine k_aloadN X196 d_jdk_68_73_5 rfl rfl (pc' := 6) rfl ?_
  refine k_aloadN X196 d_jdk_68_73_6 rfl rfl (pc' := 7) rfl ?_
  have c197 := (q1.keep K196 nin0)
  refine k_getF X196 d_jdk_68_73_7 (host := "") (Or.inl (w_57 hw)) Via.refl c197 (pc' := 10) rfl fun T198 X199 => ?_
  refine k_iloadN X199 d_jdk_68_73_10 rfl (pc' := 11) rfl ?_
  refine k_aloadN X199 d_jdk_68_73_11 rfl rfl (pc' := 12) rfl ?_
  have c200 := (q2.keep K196 nin0)
  refine k_getF X199 d_jdk_68_73_12 (host := "") (Or.inl (w_59 hw)) Via.refl c200 (pc' := 15) rfl fun T201 X202 => ?_
  have c203 := (q4.keep K196)
  have c204 := (q5.keep K196 nin0)
  have c205 := (q6.keep K196 nin0)
  have c206 := (q7.keep K196 nin0)
  have c207 := (q3.keep K196 nin0)
  have ge208 : n0 ≤ bv := by omega
  refine k_callVNF X202 (y := (⟨"java/lang/String", "getBytes", "([BIB)V"⟩ : MethodName)) d_jdk_68_73_15 (w_122 hw) (w_123 hw) (w_125 hw) (w_124 hw) (w_6 hw) (w_126 hw) (by decide) (notFace_of_selects (args := #[]) (mvT X202.hZ (w_125 hw))) c203 (argsL := [(.ref bv), (.int pv), (.int (0 : Int32))]) (rest := []) (own_getB l Z a0 hw G n0 h196 X202.old x bv kb B t kt cs pq pv hpv hBl hpc hcl ge208 c203 c204 c205 c206 c207) rfl pd_12 rfl rfl (by decide) (W := 0) (Nat.le_of_eq rfl) (by decide) (by decide) (by decide) (allS ⟨trivial, ge208⟩ all0) (pc' := 18) rfl ?_
  rintro T209 h209 L209 X209 K209 q209_0
  have sz_h209 := K209.1
  have K0_h209 : Keep h0 h209 [bv] := K0_h196.trans K209 (allS (Or.inl (List.mem_of_getElem? (i := 0) rfl)) all0)
  have lt209_0 := own_n q209_0.lt
  exact k_retFV X209 d_jdk_68_73_18 rfl K0_h209 ⟨rfl, q209_0⟩ (by decide) (by decide)
set_option maxRecDepth 65536 in
set_option maxHeartbeats 40000000 in
theorem own_asbA (l : Launch) (Z : State) (a0 : Array Value) (hw : ∀ d ∈ tables_1, d.before a0 Z = true) {zc : Int32} {fm : Value}  (G : Gl Z zc fm) (n0 : Nat) (h0 : Heap) (O0 : Old Z n0 h0) (a : Nat) (x : Nat) (bv : Nat) (kb : ClassId) (nv : Int32) (B : List Int32) (mb : Int32) (t : Nat) (kt : ClassId) (cs : List Int32) (pq : Nat) (hnv : nv = Int32.ofNat pq) (hBl : B.length = 16) (hpc : pq + cs.length ≤ 16) (hl1 : own_l1 cs) (hxa : bv < x ∨ x < bv) (hxt : bv < t ∨ t < bv) (hab : bv < a ∨ a < bv) (hax : a < x ∨ x < a) (hat : a < t ∨ t < a) (gw0 : n0 ≤ a) (gw1 : n0 ≤ bv) (q0 : Exa Z h0 a "java/lang/StringBuilder") (q1 : Fld Z h0 a "java/lang/AbstractStringBuilder" "value" "[B" (.ref bv)) (q2 : Fld Z h0 a "java/lang/AbstractStringBuilder" "coder" "B" (.int (0 : Int32))) (q3 : Fld Z h0 a "java/lang/AbstractStringBuilder" "count" "I" (.int nv)) (q4 : Fld Z h0 a "java/lang/AbstractStringBuilder" "maybeLatin1" "Z" (.int mb)) (q5 : Arv Z h0 bv kb .byte (16 : Int32) (own_lat B) (.int (0 : Int32))) (q6 : Exa Z h0 x "java/lang/String") (q7 : Fld Z h0 x "java/lang/String" "value" "[B" (.ref t)) (q8 : Fld Z h0 x "java/lang/String" "coder" "B" (.int (0 : Int32))) (q9 : Arv Z h0 t kt .byte (Int32.ofNat cs.length) (own_lat cs) (.int (0 : Int32))) :
    MetF l [] Z n0 (⟨"java/lang/AbstractStringBuilder", "append", "(Ljava/lang/String;)Ljava/lang/AbstractStringBuilder;"⟩ : MethodName) jdk_68_method_22_code 3 (Option.some (FieldType.object "java/lang/AbstractStringBuilder")) ({ frames := 3, cells := 0, slots := 0, locals := 47 } : Room) #[(.ref a), (.ref x)] h0 [a, bv] (fun r h' => ∃ w, r = some w ∧ w = (.ref a) ∧ (Exa Z h' a "java/lang/StringBuilder") ∧ (Fld Z h' a "java/lang/AbstractStringBuilder" "value" "[B" (.ref bv)) ∧ (Fld Z h' a "java/lang/AbstractStringBuilder" "coder" "B" (.int (0 : Int32))) ∧ (Fld Z h' a "java/lang/AbstractStringBuilder" "count" "I" (.int (Int32.ofNat (pq + cs.length)))) ∧ (Fld Z h' a "java/lang/AbstractStringBuilder" "maybeLatin1" "Z" (.int mb)) ∧ (Arv Z h' bv kb .byte (16 : Int32) (own_lat (own_put B pq cs)) (.int (0 : Int32)))) := by
  refine metF (plainFor_of_name pn_6) O0 (Ls := #[.val (.ref a), .val (.ref x), .unset]) (fun m => by first | (simp [entryFrame, mkF, argsToLocals, Value.category]; done) | rfl) ?_
  intro p e s m below meth c T0 X0
  have K0_h0 := Keep.refl h0 [a, bv]
  have n0le := X0.n0le
  have ltq0 := own_n q0.lt
  have ltq1 := own_n q1.lt
  have ltq2 := own_n q2.lt
  have ltq3 := own_n q3.lt
  have ltq4 := own_n q4.lt
  have ltq5 := own_n q5.lt
  have ltq6 := own_n q6.lt
  have ltq7 := own_n q7.lt
  have ltq8 := own_n q8.lt
  have ltq9 := own_n q9.lt
  obtain ⟨G_cs, G_zc, G_fm, isref_fm⟩ := id G
  have ltt := own_n q9.lt
  have hcd210 := own_codOfL hl1
  refine k_aloadN X0 d_jdk_68_22_0 rfl rfl (pc' := 1) rfl ?_
  refine k_ifnonnullYes X0 d_jdk_68_22_1 (pc' := 9) (by decide) (by decide) ?_
  refine k_aloadN X0 d_jdk_68_22_9 rfl rfl (pc' := 10) rfl ?_
  refine k_callVVF X0 (y := (⟨"java/lang/String", "length", "()I"⟩ : MethodName)) d_jdk_68_22_10 (w_96 hw) (w_97 hw) (w_99 hw) (w_98 hw) (w_6 hw) (w_100 hw) (by decide) (notFace_of_selects (args := #[]) (mvT X0.hZ (w_99 hw))) q6 (argsL := []) (rest := []) (own_len l Z a0 hw G n0 h0 X0.old x t kt (0 : Int32) (Int32.ofNat cs.length) (own_lat cs) cs (by omega) q6 q7 q8 q9 hcd210) rfl pd_10 rfl rfl (by decide) (W := 0) (Nat.le_of_eq rfl) (by decide) (by decide) (by decide) all0 (pc' := 13) rfl ?_
  rintro _ T211 h211 L211 X211 K211 ⟨rfl, -⟩
  have sz_h211 := K211.1
  have K0_h211 : Keep h0 h211 [a, bv] := K0_h0.trans K211 all0
  refine k_istoreN X211 d_jdk_68_22_13 (Ls' := #[.val (.ref a), .val (.ref x), .val (.int (Int32.ofNat cs.length))]) rfl (pc' := 14) rfl ?_
  refine k_aloadN X211 d_jdk_68_22_14 rfl rfl (pc' := 15) rfl ?_
  refine k_aloadN X211 d_jdk_68_22_15 rfl rfl (pc' := 16) rfl ?_
  have c213 := (q3.keep K211 nin0)
  refine k_getF X211 d_jdk_68_22_16 (host := "") (Or.inl (w_85 hw)) Via.refl c213 (pc' := 19) rfl fun T214 X215 => ?_
  refine k_iloadN X215 d_jdk_68_22_19 rfl (pc' := 20) rfl ?_
  refine k_iadd X215 d_jdk_68_22_20 (w := (Int32.ofNat (pq + cs.length))) (by rw [hnv]; exact (Int32.ofNat_add pq cs.length).symm) (pc' := 21) rfl ?_
  have c216 := (q1.keep K211 nin0)
  have c217 := (q2.keep K211 nin0)
  have c218 := (q5.keep K211 nin0)
  have c219 := (q0.keep K211)
  refine k_callQNF X215 (y := (⟨"java/lang/AbstractStringBuilder", "ensureCapacityInternal", "(I)V"⟩ : MethodName)) d_jdk_68_22_21 (w_106 hw) (w_107 hw) (w_109 hw) (w_108 hw) (w_53 hw) (w_110 hw) (by decide) c219 (argsL := [(.int (Int32.ofNat (pq + cs.length)))]) (rest := []) (own_ens l Z a0 hw G n0 h211 X215.old a (pq + cs.length) (Int32.ofNat (pq + cs.length)) bv kb (own_lat B) (.int (0 : Int32)) rfl hpc c216 c217 c218) rfl pd_9 rfl rfl (by decide) (W := 0) (Nat.le_of_eq rfl) (by decide) (by decide) (by decide) all0 (pc' := 24) rfl ?_
  rintro T220 h220 L220 X220 K220 -
  have sz_h220 := K220.1
  have K0_h220 : Keep h0 h220 [a, bv] := K0_h211.trans K220 all0
  refine k_aloadN X220 d_jdk_68_22_24 rfl rfl (pc' := 25) rfl ?_
  refine k_aloadN X220 d_jdk_68_22_25 rfl rfl (pc' := 26) rfl ?_
  have c221 := (c213.keep K220 nin0)
  refine k_getF X220 d_jdk_68_22_26 (host := "") (Or.inl (w_85 hw)) Via.refl c221 (pc' := 29) rfl fun T222 X223 => ?_
  refine k_aloadN X223 d_jdk_68_22_29 rfl rfl (pc' := 30) rfl ?_
  have c224 := (c219.keep K220)
  have c225 := (c216.keep K220 nin0)
  have c226 := (c217.keep K220 nin0)
  have c227 := (c218.keep K220 nin0)
  have c228 := ((q6.keep K211).keep K220)
  have c229 := ((q7.keep K211 nin0).keep K220 nin0)
  have c230 := ((q8.keep K211 nin0).keep K220 nin0)
  have c231 := ((q9.keep K211 nin0).keep K220 nin0)
  have ge232 : n0 ≤ bv := by omega
  refine k_callQNF X223 (y := (⟨"java/lang/AbstractStringBuilder", "putStringAt", "(ILjava/lang/String;)V"⟩ : MethodName)) d_jdk_68_22_30 (w_111 hw) (w_112 hw) (w_114 hw) (w_113 hw) (w_53 hw) (w_115 hw) (by decide) c224 (argsL := [(.int nv), (.ref x)]) (rest := []) (own_putS l Z a0 hw G n0 h220 X223.old a x bv kb B t kt cs pq nv hnv hBl hpc (by omega) ge232 c224 c225 c226 c227 c228 c229 c230 c231) rfl pd_13 rfl rfl (by decide) (W := 0) (Nat.le_of_eq rfl) (by decide) (by decide) (by decide) (allS ⟨trivial, ge232⟩ all0) (pc' := 33) rfl ?_
  rintro T233 h233 L233 X233 K233 q233_0
  have sz_h233 := K233.1
  have K0_h233 : Keep h0 h233 [a, bv] := K0_h220.trans K233 (allS (Or.inl (List.mem_of_getElem? (i := 1) rfl)) all0)
  have lt233_0 := own_n q233_0.lt
  refine k_aloadN X233 d_jdk_68_22_33 rfl rfl (pc' := 34) rfl ?_
  refine k_dup X233 d_jdk_68_22_34 rfl (pc' := 35) rfl ?_
  have ne234 : (a : Nat) ≠ bv := own_ne (by omega)
  have c235 := (c221.keep K233 (ninS ne234 nin0))
  refine k_getF X233 d_jdk_68_22_35 (host := "") (Or.inl (w_85 hw)) Via.refl c235 (pc' := 38) rfl fun T236 X237 => ?_
  refine k_iloadN X237 d_jdk_68_22_38 rfl (pc' := 39) rfl ?_
  refine k_iadd X237 d_jdk_68_22_39 (w := (Int32.ofNat (pq + cs.length))) (by rw [hnv]; exact (Int32.ofNat_add pq cs.length).symm) (pc' := 40) rfl ?_
  have c238 := (c224.keep K233)
  have ge240 : n0 ≤ a := by omega
  refine k_putF X237 d_jdk_68_22_40 (host := "") (Or.inl (w_85 hw)) Via.refl c235 c238 (Or.inl (w_86 hw)) (w_44 hw) (ty := .int) (by decide) rfl rfl trivial ge240 (pc' := 43) rfl fun T239 h239 L239 X239 W239 K239 => ?_
  have sz_h239 := K239.1
  have K0_h239 : Keep h0 h239 [a, bv] := K0_h233.trans K239 (allS (Or.inl (List.mem_of_getElem? (i := 0) rfl)) all0)
  have F239 := c235.same W239
  refine k_aloadN X239 d_jdk_68_22_43 rfl rfl (pc' := 44) rfl ?_
  have c241 := (c238.keep K239)
  have c242 := ((c225.keep K233 (ninS ne234 nin0)).other W239 (Or.inr (slot_ne (Or.inl (w_58 hw)) (Or.inl (w_86 hw)) (by decide) (t := (.array .byte)) (t' := .int) (by decide) (by decide))))
  have c243 := ((c226.keep K233 (ninS ne234 nin0)).other W239 (Or.inr (slot_ne (Or.inl (w_60 hw)) (Or.inl (w_86 hw)) (by decide) (t := .byte) (t' := .int) (by decide) (by decide))))
  have c244 := ((((q4.keep K211 nin0).keep K220 nin0).keep K233 (ninS ne234 nin0)).other W239 (Or.inr (slot_ne (Or.inl (w_208 hw)) (Or.inl (w_86 hw)) (by decide) (t := .boolean) (t' := .int) (by decide) (by decide))))
  have ne245 : (bv : Nat) ≠ a := own_ne (by omega)
  have c246 := (q233_0.keep K239 (ninS ne245 nin0))
  exact k_retFA X239 d_jdk_68_22_44 rfl rfl rfl rfl K0_h239 ⟨_, rfl, rfl, c241, c242, c243, F239, c244, c246⟩ (by decide) (by decide)
set_option maxRecDepth 65536 in
set_option maxHeartbeats 40000000 in
theorem own_sbA (l : Launch) (Z : State) (a0 : Array Value) (hw : ∀ d ∈ tables_1, d.before a0 Z = true) {zc : Int32} {fm : Value}  (G : Gl Z zc fm) (n0 : Nat) (h0 : Heap) (O0 : Old Z n0 h0) (a : Nat) (x : Nat) (bv : Nat) (kb : ClassId) (nv : Int32) (B : List Int32) (mb : Int32) (t : Nat) (kt : ClassId) (cs : List Int32) (pq : Nat) (hnv : nv = Int32.ofNat pq) (hBl : B.length = 16) (hpc : pq + cs.length ≤ 16) (hl1 : own_l1 cs) (hxa : bv < x ∨ x < bv) (hxt : bv < t ∨ t < bv) (hab : bv < a ∨ a < bv) (hax : a < x ∨ x < a) (hat : a < t ∨ t < a) (gw0 : n0 ≤ a) (gw1 : n0 ≤ bv) (q0 : Exa Z h0 a "java/lang/StringBuilder") (q1 : Fld Z h0 a "java/lang/AbstractStringBuilder" "value" "[B" (.ref bv)) (q2 : Fld Z h0 a "java/lang/AbstractStringBuilder" "coder" "B" (.int (0 : Int32))) (q3 : Fld Z h0 a "java/lang/AbstractStringBuilder" "count" "I" (.int nv)) (q4 : Fld Z h0 a "java/lang/AbstractStringBuilder" "maybeLatin1" "Z" (.int mb)) (q5 : Arv Z h0 bv kb .byte (16 : Int32) (own_lat B) (.int (0 : Int32))) (q6 : Exa Z h0 x "java/lang/String") (q7 : Fld Z h0 x "java/lang/String" "value" "[B" (.ref t)) (q8 : Fld Z h0 x "java/lang/String" "coder" "B" (.int (0 : Int32))) (q9 : Arv Z h0 t kt .byte (Int32.ofNat cs.length) (own_lat cs) (.int (0 : Int32))) :
    MetF l [] Z n0 (⟨"java/lang/StringBuilder", "append", "(Ljava/lang/String;)Ljava/lang/StringBuilder;"⟩ : MethodName) jdk_67_method_7_code 2 (Option.some (FieldType.object "java/lang/StringBuilder")) ({ frames := 4, cells := 0, slots := 0, locals := 61 } : Room) #[(.ref a), (.ref x)] h0 [a, bv] (fun r h' => ∃ w, r = some w ∧ w = (.ref a) ∧ (Exa Z h' a "java/lang/StringBuilder") ∧ (Fld Z h' a "java/lang/AbstractStringBuilder" "value" "[B" (.ref bv)) ∧ (Fld Z h' a "java/lang/AbstractStringBuilder" "coder" "B" (.int (0 : Int32))) ∧ (Fld Z h' a "java/lang/AbstractStringBuilder" "count" "I" (.int (Int32.ofNat (pq + cs.length)))) ∧ (Fld Z h' a "java/lang/AbstractStringBuilder" "maybeLatin1" "Z" (.int mb)) ∧ (Arv Z h' bv kb .byte (16 : Int32) (own_lat (own_put B pq cs)) (.int (0 : Int32)))) := by
  refine metF (plainFor_of_name pn_7) O0 (Ls := #[.val (.ref a), .val (.ref x)]) (fun m => by first | (simp [entryFrame, mkF, argsToLocals, Value.category]; done) | rfl) ?_
  intro p e s m below meth c T0 X0
  have K0_h0 := Keep.refl h0 [a, bv]
  have n0le := X0.n0le
  have ltq0 := own_n q0.lt
  have ltq1 := own_n q1.lt
  have ltq2 := own_n q2.lt
  have ltq3 := own_n q3.lt
  have ltq4 := own_n q4.lt
  have ltq5 := own_n q5.lt
  have ltq6 := own_n q6.lt
  have ltq7 := own_n q7.lt
  have ltq8 := own_n q8.lt
  have ltq9 := own_n q9.lt
  obtain ⟨G_cs, G_zc, G_fm, isref_fm⟩ := id G
  have ltt := own_n q9.lt
  refine k_aloadN X0 d_jdk_67_7_0 rfl rfl (pc' := 1) rfl ?_
  refine k_aloadN X0 d_jdk_67_7_1 rfl rfl (pc' := 2) rfl ?_
  have ge247 : n0 ≤ a := by omega
  have ge248 : n0 ≤ bv := by omega
  refine k_callUVF X0 (y := (⟨"java/lang/AbstractStringBuilder", "append", "(Ljava/lang/String;)Ljava/lang/AbstractStringBuilder;"⟩ : MethodName)) d_jdk_67_7_2 (w_92 hw) (w_93 hw) (w_109 hw) rfl (w_82 hw) (w_53 hw) (w_95 hw) (by decide) (by decide) (Ins.self q0) (argsL := [(.ref x)]) (rest := []) (own_asbA l Z a0 hw G n0 h0 X0.old a x bv kb nv B mb t kt cs pq hnv hBl hpc hl1 hxa hxt hab hax hat ge247 ge248 q0 q1 q2 q3 q4 q5 q6 q7 q8 q9) rfl pd_14 rfl rfl (by decide) (W := 0) (Nat.le_of_eq rfl) (by decide) (by decide) (by decide) (allS ⟨trivial, ge247⟩ (allS ⟨trivial, ge248⟩ all0)) (pc' := 5) rfl ?_
  rintro _ T249 h249 L249 X249 K249 ⟨rfl, q249_0, q249_1, q249_2, q249_3, q249_4, q249_5⟩
  have sz_h249 := K249.1
  have K0_h249 : Keep h0 h249 [a, bv] := K0_h0.trans K249 (allS (Or.inl (List.mem_of_getElem? (i := 0) rfl)) (allS (Or.inl (List.mem_of_getElem? (i := 1) rfl)) all0))
  have lt249_0 := own_n q249_0.lt
  have lt249_1 := own_n q249_1.lt
  have lt249_2 := own_n q249_2.lt
  have lt249_3 := own_n q249_3.lt
  have lt249_4 := own_n q249_4.lt
  have lt249_5 := own_n q249_5.lt
  refine k_pop X249 d_jdk_67_7_5 rfl (pc' := 6) rfl ?_
  refine k_aloadN X249 d_jdk_67_7_6 rfl rfl (pc' := 7) rfl ?_
  exact k_retFA X249 d_jdk_67_7_7 rfl rfl rfl rfl K0_h249 ⟨_, rfl, rfl, q249_0, q249_1, q249_2, q249_3, q249_4, q249_5⟩ (by decide) (by decide)
set_option maxRecDepth 65536 in
set_option maxHeartbeats 40000000 in
theorem own_mk (l : Launch) (Z : State) (a0 : Array Value) (hw : ∀ d ∈ tables_1, d.before a0 Z = true) {zc : Int32} {fm : Value}  (G : Gl Z zc fm) (n0 : Nat) (h0 : Heap) (O0 : Old Z n0 h0) (len : Int32) (w0 : Int32) (hl : own_0123 len)   :
    MetH l [] Z EL n0 (⟨"com/example/colophon/colophon/OpenIdsEndElementPinLaw", "mk", "(II)Ljava/lang/String;"⟩ : MethodName) method_5_code 5 (Option.some (FieldType.object "java/lang/String")) ({ frames := 4, cells := 6, slots := 12, locals := 66 } : Room) #[(.int len), (.int w0)] h0 [] (fun r v' h' => ∃ w, r = some w ∧ ∃ (r : Nat), ∃ (t : Nat), ∃ (kt : ClassId), ∃ (cs : List Int32), w = (.ref r) ∧ (Exa Z h' r "java/lang/String") ∧ (Fld Z h' r "java/lang/String" "value" "[B" (.ref t)) ∧ (Fld Z h' r "java/lang/String" "coder" "B" (.int (0 : Int32))) ∧ (Arv Z h' t kt .byte (Int32.ofNat cs.length) (own_lat cs) (.int (0 : Int32))) ∧ (own_mkP len cs)) := by
  refine metH (hEL hw) (plainFor_of_name pn_8) O0 (Ls := #[.val (.int len), .val (.int w0), .unset, .unset, .unset]) (fun m => by first | (simp [entryFrame, mkF, argsToLocals, Value.category]; done) | rfl) ?_
  intro p e s m below meth c T0 v0 X0 hSf
  have K0_h0 := Keep.refl h0 []
  have n0le := X0.n0le
  obtain ⟨G_cs, G_zc, G_fm, isref_fm⟩ := id G
  refine k_iloadN X0 d_5_0 rfl (pc' := 1) rfl ?_
  refine k_sipush X0 d_5_1 (w := (255 : Int32)) rfl (pc' := 4) rfl ?_
  refine k_iand X0 d_5_4 (w := (w0 &&& (255 : Int32))) rfl (pc' := 5) rfl ?_
  refine k_i2c X0 d_5_5 (w := (w0 &&& (255 : Int32))) (i2c_mask _) (pc' := 6) rfl ?_
  refine k_istoreN X0 d_5_6 (Ls' := #[.val (.int len), .val (.int w0), .val (.int (w0 &&& (255 : Int32))), .unset, .unset]) rfl (pc' := 7) rfl ?_
  refine k_iloadN X0 d_5_7 rfl (pc' := 8) rfl ?_
  refine k_bipush X0 d_5_8 (w := (8 : Int32)) rfl (pc' := 10) rfl ?_
  refine k_iushr X0 d_5_10 (w := ((w0.toUInt32 >>> ((8 : Int32) &&& 31).toUInt32).toInt32)) rfl (pc' := 11) rfl ?_
  refine k_sipush X0 d_5_11 (w := (255 : Int32)) rfl (pc' := 14) rfl ?_
  refine k_iand X0 d_5_14 (w := (((w0.toUInt32 >>> ((8 : Int32) &&& 31).toUInt32).toInt32) &&& (255 : Int32))) rfl (pc' := 15) rfl ?_
  refine k_i2c X0 d_5_15 (w := (((w0.toUInt32 >>> ((8 : Int32) &&& 31).toUInt32).toInt32) &&& (255 : Int32))) (i2c_mask _) (pc' := 16) rfl ?_
  refine k_istoreN X0 d_5_16 (Ls' := #[.val (.int len), .val (.int w0), .val (.int (w0 &&& (255 : Int32))), .val (.int (((w0.toUInt32 >>> ((8 : Int32) &&& 31).toUInt32).toInt32) &&& (255 : Int32))), .unset]) rfl (pc' := 17) rfl ?_
  refine k_iloadN X0 d_5_17 rfl (pc' := 18) rfl ?_
  refine k_bipush X0 d_5_18 (w := (16 : Int32)) rfl (pc' := 20) rfl ?_
  refine k_iushr X0 d_5_20 (w := ((w0.toUInt32 >>> ((16 : Int32) &&& 31).toUInt32).toInt32)) rfl (pc' := 21) rfl ?_
  refine k_sipush X0 d_5_21 (w := (255 : Int32)) rfl (pc' := 24) rfl ?_
  refine k_iand X0 d_5_24 (w := (((w0.toUInt32 >>> ((16 : Int32) &&& 31).toUInt32).toInt32) &&& (255 : Int32))) rfl (pc' := 25) rfl ?_
  refine k_i2c X0 d_5_25 (w := (((w0.toUInt32 >>> ((16 : Int32) &&& 31).toUInt32).toInt32) &&& (255 : Int32))) (i2c_mask _) (pc' := 26) rfl ?_
  refine k_istore X0 d_5_26 (Ls' := #[.val (.int len), .val (.int w0), .val (.int (w0 &&& (255 : Int32))), .val (.int (((w0.toUInt32 >>> ((8 : Int32) &&& 31).toUInt32).toInt32) &&& (255 : Int32))), .val (.int (((w0.toUInt32 >>> ((16 : Int32) &&& 31).toUInt32).toInt32) &&& (255 : Int32)))]) rfl (pc' := 28) rfl ?_
  refine k_iloadN X0 d_5_28 rfl (pc' := 29) rfl ?_
  by_cases hc251 : len = (0 : Int32)
  · refine k_ifNo X0 d_5_29 ((if0 _ _).trans (teq hc251).2) (pc' := 32) rfl ?_
    refine k_newO X0 d_5_32 (w_4 hw) (w_5 hw) (w_6 hw) (by decide) (by decide) (pc' := 35) rfl fun T252 h252 b252 g252 X252 K252 E252 D252 S252 lt252 ge252 => ?_
    have sz_h252 := K252.1
    have K0_h252 : Keep h0 h252 [] := K0_h0.trans K252 all0
    have Fn252_coder : Fld Z h252 b252 "java/lang/String" "coder" "B" (.int (0 : Int32)) := D252 (Or.inr (w_31 hw)) (ty := .byte) (by decide)
    have Fn252_value : Fld Z h252 b252 "java/lang/String" "value" "[B" .null := D252 (Or.inr (w_33 hw)) (ty := (.array .byte)) (by decide)
    refine k_dup X252 d_5_35 rfl (pc' := 36) rfl ?_
    refine k_iconst X252 d_5_36 (w := (0 : Int32)) rfl (pc' := 37) rfl ?_
    refine k_newP X252 d_5_37 (w_7 hw) (by decide) (cap := 0) (by decide) (by decide) (by decide) (by decide) (pc' := 39) rfl fun T253 h253 b253 k253 g253 X253 K253 V253 S253 lt253 ge253 => ?_
    have sz_h253 := K253.1
    have K0_h253 : Keep h0 h253 [] := K0_h252.trans K253 all0
    have V253' : Arv Z h253 b253 k253 .char (0 : Int32) [] (.int (0 : Int32)) := Arv.pad V253 (pad_rep [] (.int (0 : Int32)) 0)
    have c254 := (E252.keep K253)
    have c255 := (Fn252_value.keep K253 nin0)
    have c256 := (Fn252_coder.keep K253 nin0)
    have ge257 : n0 ≤ b252 := by omega
    have c260 := (X252.sf K253 all0 S252)
    refine k_callPNH X253 (y := (⟨"java/lang/String", "<init>", "([C)V"⟩ : MethodName)) d_5_39 (w_8 hw) (w_9 hw) (w_6 hw) (w_10 hw) (by decide) rfl rfl (argsL := [(.ref b253)]) (rest := [(.ref b252)]) (own_initE l Z a0 hw G n0 h253 X253.old b252 b253 k253 [] (.int (0 : Int32)) ge257 c254 c255 c256 V253') rfl pd_15 rfl rfl (by decide) (W := 1) (Nat.le_of_eq rfl) (by decide) (by decide) (by decide) (allS ⟨⟨own_n (by omega), c260⟩, ge257⟩ all0) (pc' := 42) rfl ?_
    rintro v261 T261 h261 L261 X261 K261 C261 ⟨t_258, kt_259, q261_0, q261_1, q261_2, q261_3⟩
    have sz_h261 := K261.1
    have od262 : h0.size ≤ b252 := by omega
    have K0_h261 : Keep h0 h261 [] := K0_h253.trans K261 (allS (Or.inr od262) all0)
    have lt261_0 := own_n q261_0.lt
    have lt261_1 := own_n q261_1.lt
    have lt261_2 := own_n q261_2.lt
    have lt261_3 := own_n q261_3.lt
    exact k_retHA X261 d_5_42 rfl rfl rfl rfl K0_h261 (fun v' C' => ⟨_, rfl, _, _, _, [], rfl, q261_0, q261_2, q261_1, q261_3, ⟨own_l10, by simp, hc251⟩⟩) (by decide) (by decide)
  · refine k_ifYes X0 d_5_29 ((if0 _ _).trans (feq hc251).2) (pc' := 43) (by decide) (by decide) ?_
    refine k_iloadN X0 d_5_43 rfl (pc' := 44) rfl ?_
    refine k_iconst X0 d_5_44 (w := (1 : Int32)) rfl (pc' := 45) rfl ?_
    by_cases hc263 : len = (1 : Int32)
    · refine k_icmpNo X0 d_5_45 (teq hc263).2 (pc' := 48) rfl ?_
      refine k_newO X0 d_5_48 (w_4 hw) (w_5 hw) (w_6 hw) (by decide) (by decide) (pc' := 51) rfl fun T264 h264 b264 g264 X264 K264 E264 D264 S264 lt264 ge264 => ?_
      have sz_h264 := K264.1
      have K0_h264 : Keep h0 h264 [] := K0_h0.trans K264 all0
      have Fn264_coder : Fld Z h264 b264 "java/lang/String" "coder" "B" (.int (0 : Int32)) := D264 (Or.inr (w_31 hw)) (ty := .byte) (by decide)
      have Fn264_value : Fld Z h264 b264 "java/lang/String" "value" "[B" .null := D264 (Or.inr (w_33 hw)) (ty := (.array .byte)) (by decide)
      refine k_dup X264 d_5_51 rfl (pc' := 52) rfl ?_
      refine k_iconst X264 d_5_52 (w := (1 : Int32)) rfl (pc' := 53) rfl ?_
      refine k_newP X264 d_5_53 (w_7 hw) (by decide) (cap := 1) (by decide) (by decide) (by decide) (by decide) (pc' := 55) rfl fun T265 h265 b265 k265 g265 X265 K265 V265 S265 lt265 ge265 => ?_
      have sz_h265 := K265.1
      have K0_h265 : Keep h0 h265 [] := K0_h264.trans K265 all0
      have V265' : Arv Z h265 b265 k265 .char (1 : Int32) [(.int (0 : Int32))] (.int (0 : Int32)) := Arv.pad V265 (pad_rep [] (.int (0 : Int32)) 1)
      refine k_dup X265 d_5_55 rfl (pc' := 56) rfl ?_
      refine k_iconst X265 d_5_56 (w := (0 : Int32)) rfl (pc' := 57) rfl ?_
      refine k_iloadN X265 d_5_57 rfl (pc' := 58) rfl ?_
      have ge267 : n0 ≤ b265 := by omega
      refine k_castore X265 (w := (w0 &&& (255 : Int32))) 0 d_5_58 V265' (by decide) (by decide) rfl (Nat.le_of_ble_eq_true rfl) (i2c_mask _) (vs' := [(.int (w0 &&& (255 : Int32)))]) rfl S265 ge267 (pc' := 59) rfl fun T266 h266 L266 X266 K266 V266 => ?_
      have sz_h266 := K266.1
      have od268 : h0.size ≤ b265 := by omega
      have K0_h266 : Keep h0 h266 [] := K0_h265.trans K266 (allS (Or.inr od268) all0)
      have c269 := ((E264.keep K265).keep K266)
      have ne270 : (b264 : Nat) ≠ b265 := own_ne (by omega)
      have c271 := ((Fn264_value.keep K265 nin0).keep K266 (ninS ne270 nin0))
      have c272 := ((Fn264_coder.keep K265 nin0).keep K266 (ninS ne270 nin0))
      have ge273 : n0 ≤ b264 := by omega
      have c276 := (X265.sf K266 (allS ⟨S265, ge267⟩ all0) (X264.sf K265 all0 S264))
      refine k_callPNF X266 (y := (⟨"java/lang/String", "<init>", "([C)V"⟩ : MethodName)) d_5_59 (w_8 hw) (w_9 hw) (w_6 hw) (w_10 hw) (by decide) rfl rfl (argsL := [(.ref b265)]) (rest := [(.ref b264)]) (own_initL l Z a0 hw G n0 h266 X266.old b264 b265 k265 (1 : Int32) [(.int (w0 &&& (255 : Int32)))] [(w0 &&& (255 : Int32))] rfl rfl (by simp) (by simp) (own_alS (own_and255 _) own_al0) ge273 c269 c271 c272 V266) rfl pd_15 rfl rfl (by decide) (W := 1) (Nat.le_of_eq rfl) (by decide) (by decide) (by decide) (allS ⟨c276, ge273⟩ all0) (pc' := 62) rfl ?_
      rintro T277 h277 L277 X277 K277 ⟨t_274, kt_275, q277_0, q277_1, q277_2, q277_3, q277_4⟩
      have sz_h277 := K277.1
      have od278 : h0.size ≤ b264 := by omega
      have K0_h277 : Keep h0 h277 [] := K0_h266.trans K277 (allS (Or.inr od278) all0)
      have lt277_0 := own_n q277_0.lt
      have lt277_1 := own_n q277_1.lt
      have lt277_2 := own_n q277_2.lt
      have lt277_3 := own_n q277_3.lt
      have sn277_4 := X266.sf K277 (allS ⟨c276, ge273⟩ all0) (X266.sfN q277_4)
      exact k_retHA X277 d_5_62 rfl rfl rfl rfl K0_h277 (fun v' C' => ⟨_, rfl, _, _, _, [(w0 &&& (255 : Int32))], rfl, q277_0, q277_2, q277_1, q277_3, ⟨(own_l1S (own_mask_rng _) own_l10), by simp, hc263⟩⟩) (by decide) (by decide)
    · refine k_icmpYes X0 d_5_45 (feq hc263).2 (pc' := 63) (by decide) (by decide) ?_
      refine k_iloadN X0 d_5_63 rfl (pc' := 64) rfl ?_
      refine k_iconst X0 d_5_64 (w := (2 : Int32)) rfl (pc' := 65) rfl ?_
      by_cases hc279 : len = (2 : Int32)
      · refine k_icmpNo X0 d_5_65 (teq hc279).2 (pc' := 68) rfl ?_
        refine k_newO X0 d_5_68 (w_4 hw) (w_5 hw) (w_6 hw) (by decide) (by decide) (pc' := 71) rfl fun T280 h280 b280 g280 X280 K280 E280 D280 S280 lt280 ge280 => ?_
        have sz_h280 := K280.1
        have K0_h280 : Keep h0 h280 [] := K0_h0.trans K280 all0
        have Fn280_coder : Fld Z h280 b280 "java/lang/String" "coder" "B" (.int (0 : Int32)) := D280 (Or.inr (w_31 hw)) (ty := .byte) (by decide)
        have Fn280_value : Fld Z h280 b280 "java/lang/String" "value" "[B" .null := D280 (Or.inr (w_33 hw)) (ty := (.array .byte)) (by decide)
        refine k_dup X280 d_5_71 rfl (pc' := 72) rfl ?_
        refine k_iconst X280 d_5_72 (w := (2 : Int32)) rfl (pc' := 73) rfl ?_
        refine k_newP X280 d_5_73 (w_7 hw) (by decide) (cap := 2) (by decide) (by decide) (by decide) (by decide) (pc' := 75) rfl fun T281 h281 b281 k281 g281 X281 K281 V281 S281 lt281 ge281 => ?_
        have sz_h281 := K281.1
        have K0_h281 : Keep h0 h281 [] := K0_h280.trans K281 all0
        have V281' : Arv Z h281 b281 k281 .char (2 : Int32) [(.int (0 : Int32)), (.int (0 : Int32))] (.int (0 : Int32)) := Arv.pad V281 (pad_rep [] (.int (0 : Int32)) 2)
        refine k_dup X281 d_5_75 rfl (pc' := 76) rfl ?_
        refine k_iconst X281 d_5_76 (w := (0 : Int32)) rfl (pc' := 77) rfl ?_
        refine k_iloadN X281 d_5_77 rfl (pc' := 78) rfl ?_
        have ge283 : n0 ≤ b281 := by omega
        refine k_castore X281 (w := (w0 &&& (255 : Int32))) 0 d_5_78 V281' (by decide) (by decide) rfl (Nat.le_of_ble_eq_true rfl) (i2c_mask _) (vs' := [(.int (w0 &&& (255 : Int32))), (.int (0 : Int32))]) rfl S281 ge283 (pc' := 79) rfl fun T282 h282 L282 X282 K282 V282 => ?_
        have sz_h282 := K282.1
        have od284 : h0.size ≤ b281 := by omega
        have K0_h282 : Keep h0 h282 [] := K0_h281.trans K282 (allS (Or.inr od284) all0)
        refine k_dup X282 d_5_79 rfl (pc' := 80) rfl ?_
        refine k_iconst X282 d_5_80 (w := (1 : Int32)) rfl (pc' := 81) rfl ?_
        refine k_iloadN X282 d_5_81 rfl (pc' := 82) rfl ?_
        have c286 := (X281.sf K282 (allS ⟨S281, ge283⟩ all0) S281)
        refine k_castore X282 (w := (((w0.toUInt32 >>> ((8 : Int32) &&& 31).toUInt32).toInt32) &&& (255 : Int32))) 1 d_5_82 V282 (by decide) (by decide) rfl (Nat.le_of_ble_eq_true rfl) (i2c_mask _) (vs' := [(.int (w0 &&& (255 : Int32))), (.int (((w0.toUInt32 >>> ((8 : Int32) &&& 31).toUInt32).toInt32) &&& (255 : Int32)))]) rfl c286 ge283 (pc' := 83) rfl fun T285 h285 L285 X285 K285 V285 => ?_
        have sz_h285 := K285.1
        have K0_h285 : Keep h0 h285 [] := K0_h282.trans K285 (allS (Or.inr od284) all0)
        have c287 := (((E280.keep K281).keep K282).keep K285)
        have ne288 : (b280 : Nat) ≠ b281 := own_ne (by omega)
        have c289 := (((Fn280_value.keep K281 nin0).keep K282 (ninS ne288 nin0)).keep K285 (ninS ne288 nin0))
        have c290 := (((Fn280_coder.keep K281 nin0).keep K282 (ninS ne288 nin0)).keep K285 (ninS ne288 nin0))
        have ge291 : n0 ≤ b280 := by omega
        have c294 := (X282.sf K285 (allS ⟨c286, ge283⟩ all0) (X281.sf K282 (allS ⟨S281, ge283⟩ all0) (X280.sf K281 all0 S280)))
        refine k_callPNF X285 (y := (⟨"java/lang/String", "<init>", "([C)V"⟩ : MethodName)) d_5_83 (w_8 hw) (w_9 hw) (w_6 hw) (w_10 hw) (by decide) rfl rfl (argsL := [(.ref b281)]) (rest := [(.ref b280)]) (own_initL l Z a0 hw G n0 h285 X285.old b280 b281 k281 (2 : Int32) [(.int (w0 &&& (255 : Int32))), (.int (((w0.toUInt32 >>> ((8 : Int32) &&& 31).toUInt32).toInt32) &&& (255 : Int32)))] [(w0 &&& (255 : Int32)), (((w0.toUInt32 >>> ((8 : Int32) &&& 31).toUInt32).toInt32) &&& (255 : Int32))] rfl rfl (by simp) (by simp) (own_alS (own_and255 _) (own_alS (own_and255 _) own_al0)) ge291 c287 c289 c290 V285) rfl pd_15 rfl rfl (by decide) (W := 1) (Nat.le_of_eq rfl) (by decide) (by decide) (by decide) (allS ⟨c294, ge291⟩ all0) (pc' := 86) rfl ?_
        rintro T295 h295 L295 X295 K295 ⟨t_292, kt_293, q295_0, q295_1, q295_2, q295_3, q295_4⟩
        have sz_h295 := K295.1
        have od296 : h0.size ≤ b280 := by omega
        have K0_h295 : Keep h0 h295 [] := K0_h285.trans K295 (allS (Or.inr od296) all0)
        have lt295_0 := own_n q295_0.lt
        have lt295_1 := own_n q295_1.lt
        have lt295_2 := own_n q295_2.lt
        have lt295_3 := own_n q295_3.lt
        have sn295_4 := X285.sf K295 (allS ⟨c294, ge291⟩ all0) (X285.sfN q295_4)
        exact k_retHA X295 d_5_86 rfl rfl rfl rfl K0_h295 (fun v' C' => ⟨_, rfl, _, _, _, [(w0 &&& (255 : Int32)), (((w0.toUInt32 >>> ((8 : Int32) &&& 31).toUInt32).toInt32) &&& (255 : Int32))], rfl, q295_0, q295_2, q295_1, q295_3, ⟨(own_l1S (own_mask_rng _) (own_l1S (own_mask_rng _) own_l10)), by simp, hc279⟩⟩) (by decide) (by decide)
      · have h3 : len = 3 := by rcases hl with q | q | q | q; exact absurd q hc251; exact absurd q hc263; exact absurd q hc279; exact q
        refine k_icmpYes X0 d_5_65 (feq hc279).2 (pc' := 87) (by decide) (by decide) ?_
        refine k_newO X0 d_5_87 (w_4 hw) (w_5 hw) (w_6 hw) (by decide) (by decide) (pc' := 90) rfl fun T297 h297 b297 g297 X297 K297 E297 D297 S297 lt297 ge297 => ?_
        have sz_h297 := K297.1
        have K0_h297 : Keep h0 h297 [] := K0_h0.trans K297 all0
        have Fn297_coder : Fld Z h297 b297 "java/lang/String" "coder" "B" (.int (0 : Int32)) := D297 (Or.inr (w_31 hw)) (ty := .byte) (by decide)
        have Fn297_value : Fld Z h297 b297 "java/lang/String" "value" "[B" .null := D297 (Or.inr (w_33 hw)) (ty := (.array .byte)) (by decide)
        refine k_dup X297 d_5_90 rfl (pc' := 91) rfl ?_
        refine k_iconst X297 d_5_91 (w := (3 : Int32)) rfl (pc' := 92) rfl ?_
        refine k_newP X297 d_5_92 (w_7 hw) (by decide) (cap := 3) (by decide) (by decide) (by decide) (by decide) (pc' := 94) rfl fun T298 h298 b298 k298 g298 X298 K298 V298 S298 lt298 ge298 => ?_
        have sz_h298 := K298.1
        have K0_h298 : Keep h0 h298 [] := K0_h297.trans K298 all0
        have V298' : Arv Z h298 b298 k298 .char (3 : Int32) [(.int (0 : Int32)), (.int (0 : Int32)), (.int (0 : Int32))] (.int (0 : Int32)) := Arv.pad V298 (pad_rep [] (.int (0 : Int32)) 3)
        refine k_dup X298 d_5_94 rfl (pc' := 95) rfl ?_
        refine k_iconst X298 d_5_95 (w := (0 : Int32)) rfl (pc' := 96) rfl ?_
        refine k_iloadN X298 d_5_96 rfl (pc' := 97) rfl ?_
        have ge300 : n0 ≤ b298 := by omega
        refine k_castore X298 (w := (w0 &&& (255 : Int32))) 0 d_5_97 V298' (by decide) (by decide) rfl (Nat.le_of_ble_eq_true rfl) (i2c_mask _) (vs' := [(.int (w0 &&& (255 : Int32))), (.int (0 : Int32)), (.int (0 : Int32))]) rfl S298 ge300 (pc' := 98) rfl fun T299 h299 L299 X299 K299 V299 => ?_
        have sz_h299 := K299.1
        have od301 : h0.size ≤ b298 := by omega
        have K0_h299 : Keep h0 h299 [] := K0_h298.trans K299 (allS (Or.inr od301) all0)
        refine k_dup X299 d_5_98 rfl (pc' := 99) rfl ?_
        refine k_iconst X299 d_5_99 (w := (1 : Int32)) rfl (pc' := 100) rfl ?_
        refine k_iloadN X299 d_5_100 rfl (pc' := 101) rfl ?_
        have c303 := (X298.sf K299 (allS ⟨S298, ge300⟩ all0) S298)
        refine k_castore X299 (w := (((w0.toUInt32 >>> ((8 : Int32) &&& 31).toUInt32).toInt32) &&& (255 : Int32))) 1 d_5_101 V299 (by decide) (by decide) rfl (Nat.le_of_ble_eq_true rfl) (i2c_mask _) (vs' := [(.int (w0 &&& (255 : Int32))), (.int (((w0.toUInt32 >>> ((8 : Int32) &&& 31).toUInt32).toInt32) &&& (255 : Int32))), (.int (0 : Int32))]) rfl c303 ge300 (pc' := 102) rfl fun T302 h302 L302 X302 K302 V302 => ?_
        have sz_h302 := K302.1
        have K0_h302 : Keep h0 h302 [] := K0_h299.trans K302 (allS (Or.inr od301) all0)
        refine k_dup X302 d_5_102 rfl (pc' := 103) rfl ?_
        refine k_iconst X302 d_5_103 (w := (2 : Int32)) rfl (pc' := 104) rfl ?_
        refine k_iload X302 d_5_104 rfl (pc' := 106) rfl ?_
        have c305 := (X299.sf K302 (allS ⟨c303, ge300⟩ all0) c303)
        refine k_castore X302 (w := (((w0.toUInt32 >>> ((16 : Int32) &&& 31).toUInt32).toInt32) &&& (255 : Int32))) 2 d_5_106 V302 (by decide) (by decide) rfl (Nat.le_of_ble_eq_true rfl) (i2c_mask _) (vs' := [(.int (w0 &&& (255 : Int32))), (.int (((w0.toUInt32 >>> ((8 : Int32) &&& 31).toUInt32).toInt32) &&& (255 : Int32))), (.int (((w0.toUInt32 >>> ((16 : Int32) &&& 31).toUInt32).toInt32) &&& (255 : Int32)))]) rfl c305 ge300 (pc' := 107) rfl fun T304 h304 L304 X304 K304 V304 => ?_
        have sz_h304 := K304.1
        have K0_h304 : Keep h0 h304 [] := K0_h302.trans K304 (allS (Or.inr od301) all0)
        have c306 := ((((E297.keep K298).keep K299).keep K302).keep K304)
        have ne307 : (b297 : Nat) ≠ b298 := own_ne (by omega)
        have c308 := ((((Fn297_value.keep K298 nin0).keep K299 (ninS ne307 nin0)).keep K302 (ninS ne307 nin0)).keep K304 (ninS ne307 nin0))
        have c309 := ((((Fn297_coder.keep K298 nin0).keep K299 (ninS ne307 nin0)).keep K302 (ninS ne307 nin0)).keep K304 (ninS ne307 nin0))
        have ge310 : n0 ≤ b297 := by omega
        have c313 := (X302.sf K304 (allS ⟨c305, ge300⟩ all0) (X299.sf K302 (allS ⟨c303, ge300⟩ all0) (X298.sf K299 (allS ⟨S298, ge300⟩ all0) (X297.sf K298 all0 S297))))
        refine k_callPNF X304 (y := (⟨"java/lang/String", "<init>", "([C)V"⟩ : MethodName)) d_5_107 (w_8 hw) (w_9 hw) (w_6 hw) (w_10 hw) (by decide) rfl rfl (argsL := [(.ref b298)]) (rest := [(.ref b297)]) (own_initL l Z a0 hw G n0 h304 X304.old b297 b298 k298 (3 : Int32) [(.int (w0 &&& (255 : Int32))), (.int (((w0.toUInt32 >>> ((8 : Int32) &&& 31).toUInt32).toInt32) &&& (255 : Int32))), (.int (((w0.toUInt32 >>> ((16 : Int32) &&& 31).toUInt32).toInt32) &&& (255 : Int32)))] [(w0 &&& (255 : Int32)), (((w0.toUInt32 >>> ((8 : Int32) &&& 31).toUInt32).toInt32) &&& (255 : Int32)), (((w0.toUInt32 >>> ((16 : Int32) &&& 31).toUInt32).toInt32) &&& (255 : Int32))] rfl rfl (by simp) (by simp) (own_alS (own_and255 _) (own_alS (own_and255 _) (own_alS (own_and255 _) own_al0))) ge310 c306 c308 c309 V304) rfl pd_15 rfl rfl (by decide) (W := 1) (Nat.le_of_eq rfl) (by decide) (by decide) (by decide) (allS ⟨c313, ge310⟩ all0) (pc' := 110) rfl ?_
        rintro T314 h314 L314 X314 K314 ⟨t_311, kt_312, q314_0, q314_1, q314_2, q314_3, q314_4⟩
        have sz_h314 := K314.1
        have od315 : h0.size ≤ b297 := by omega
        have K0_h314 : Keep h0 h314 [] := K0_h304.trans K314 (allS (Or.inr od315) all0)
        have lt314_0 := own_n q314_0.lt
        have lt314_1 := own_n q314_1.lt
        have lt314_2 := own_n q314_2.lt
        have lt314_3 := own_n q314_3.lt
        have sn314_4 := X304.sf K314 (allS ⟨c313, ge310⟩ all0) (X304.sfN q314_4)
        exact k_retHA X314 d_5_110 rfl rfl rfl rfl K0_h314 (fun v' C' => ⟨_, rfl, _, _, _, [(w0 &&& (255 : Int32)), (((w0.toUInt32 >>> ((8 : Int32) &&& 31).toUInt32).toInt32) &&& (255 : Int32)), (((w0.toUInt32 >>> ((16 : Int32) &&& 31).toUInt32).toInt32) &&& (255 : Int32))], rfl, q314_0, q314_2, q314_1, q314_3, ⟨(own_l1S (own_mask_rng _) (own_l1S (own_mask_rng _) (own_l1S (own_mask_rng _) own_l10))), by simp, h3⟩⟩) (by decide) (by decide)
set_option maxRecDepth 65536 in
set_option maxHeartbeats 40000000 in
theorem own_oiI (l : Launch) (Z : State) (a0 : Array Value) (hw : ∀ d ∈ tables_1, d.before a0 Z = true) {zc : Int32} {fm : Value}  (G : Gl Z zc fm) (n0 : Nat) (h0 : Heap) (O0 : Old Z n0 h0) (o : Nat) (gw0 : n0 ≤ o) (q0 : Exa Z h0 o "com/example/colophon/colophon/OpenIds") (q1 : Fld Z h0 o "com/example/colophon/colophon/OpenIds" "characters" "Ljava/lang/StringBuilder;" .null) (q2 : Fld Z h0 o "com/example/colophon/colophon/OpenIds" "depths" "[I" .null) (q3 : Fld Z h0 o "com/example/colophon/colophon/OpenIds" "starts" "[I" .null) (q4 : Fld Z h0 o "com/example/colophon/colophon/OpenIds" "count" "I" (.int (0 : Int32))) (q5 : Fld Z h0 o "com/example/colophon/colophon/OpenIds" "innermost" "Ljava/lang/String;" .null) :
    MetF l [] Z n0 (⟨"com/example/colophon/colophon/OpenIds", "<init>", "()V"⟩ : MethodName) prog_28_method_1_code 1 (Option.none : Option FieldType) ({ frames := 3, cells := 4, slots := 52, locals := 39 } : Room) #[(.ref o)] h0 [o] (fun r h' => r = none ∧ ∃ (sb : Nat), ∃ (bv : Nat), ∃ (dp : Nat), ∃ (sp : Nat), ∃ (kb : ClassId), ∃ (kd : ClassId), ∃ (ks : ClassId), (Exa Z h' o "com/example/colophon/colophon/OpenIds") ∧ (Fld Z h' o "com/example/colophon/colophon/OpenIds" "characters" "Ljava/lang/StringBuilder;" (.ref sb)) ∧ (Fld Z h' o "com/example/colophon/colophon/OpenIds" "depths" "[I" (.ref dp)) ∧ (Fld Z h' o "com/example/colophon/colophon/OpenIds" "starts" "[I" (.ref sp)) ∧ (Fld Z h' o "com/example/colophon/colophon/OpenIds" "count" "I" (.int (0 : Int32))) ∧ (Fld Z h' o "com/example/colophon/colophon/OpenIds" "innermost" "Ljava/lang/String;" .null) ∧ (Exa Z h' sb "java/lang/StringBuilder") ∧ (Fld Z h' sb "java/lang/AbstractStringBuilder" "value" "[B" (.ref bv)) ∧ (Fld Z h' sb "java/lang/AbstractStringBuilder" "coder" "B" (.int (0 : Int32))) ∧ (Fld Z h' sb "java/lang/AbstractStringBuilder" "count" "I" (.int (0 : Int32))) ∧ (Fld Z h' sb "java/lang/AbstractStringBuilder" "maybeLatin1" "Z" (.int (0 : Int32))) ∧ (Arv Z h' bv kb .byte (16 : Int32) (own_lat (List.replicate 16 (0 : Int32))) (.int (0 : Int32))) ∧ (Arv Z h' dp kd .int (16 : Int32) [(.int (0 : Int32)), (.int (0 : Int32)), (.int (0 : Int32)), (.int (0 : Int32)), (.int (0 : Int32)), (.int (0 : Int32)), (.int (0 : Int32)), (.int (0 : Int32)), (.int (0 : Int32)), (.int (0 : Int32)), (.int (0 : Int32)), (.int (0 : Int32)), (.int (0 : Int32)), (.int (0 : Int32)), (.int (0 : Int32)), (.int (0 : Int32))] (.int (0 : Int32))) ∧ (Arv Z h' sp ks .int (16 : Int32) [(.int (0 : Int32)), (.int (0 : Int32)), (.int (0 : Int32)), (.int (0 : Int32)), (.int (0 : Int32)), (.int (0 : Int32)), (.int (0 : Int32)), (.int (0 : Int32)), (.int (0 : Int32)), (.int (0 : Int32)), (.int (0 : Int32)), (.int (0 : Int32)), (.int (0 : Int32)), (.int (0 : Int32)), (.int (0 : Int32)), (.int (0 : Int32))] (.int (0 : Int32))) ∧ (h0.size ≤ sb) ∧ (h0.size ≤ bv) ∧ (h0.size ≤ dp) ∧ (h0.size ≤ sp) ∧ (sb < bv ∧ bv < dp ∧ dp < sp)) := by
  refine metF (plainFor_of_name pn_9) O0 (Ls := #[.val (.ref o)]) (fun m => by first | (simp [entryFrame, mkF, argsToLocals, Value.category]; done) | rfl) ?_
  intro p e s m below meth c T0 X0
  have K0_h0 := Keep.refl h0 [o]
  have n0le := X0.n0le
  have ltq0 := own_n q0.lt
  have ltq1 := own_n q1.lt
  have ltq2 := own_n q2.lt
  have ltq3 := own_n q3.lt
  have ltq4 := own_n q4.lt
  have ltq5 := own_n q5.lt
  obtain ⟨G_cs, G_zc, G_fm, isref_fm⟩ := id G
  refine k_aloadN X0 d_prog_28_1_0 rfl rfl (pc' := 1) rfl ?_
  refine k_initO X0 d_prog_28_1_1 (w_42 hw) (w_16 hw) (w_17 hw) rfl (by decide) (W := 0) (Nat.le_of_eq rfl) (by decide) (pc' := 4) rfl fun T316 X317 => ?_
  refine k_aloadN X317 d_prog_28_1_4 rfl rfl (pc' := 5) rfl ?_
  refine k_newO X317 d_prog_28_1_5 (w_43 hw) (w_44 hw) (w_45 hw) (by decide) (by decide) (pc' := 8) rfl fun T318 h318 b318 g318 X318 K318 E318 D318 S318 lt318 ge318 => ?_
  have sz_h318 := K318.1
  have K0_h318 : Keep h0 h318 [o] := K0_h0.trans K318 all0
  have Fn318_value : Fld Z h318 b318 "java/lang/AbstractStringBuilder" "value" "[B" .null := D318 (Or.inl (w_58 hw)) (ty := (.array .byte)) (by decide)
  have Fn318_coder : Fld Z h318 b318 "java/lang/AbstractStringBuilder" "coder" "B" (.int (0 : Int32)) := D318 (Or.inl (w_60 hw)) (ty := .byte) (by decide)
  have Fn318_count : Fld Z h318 b318 "java/lang/AbstractStringBuilder" "count" "I" (.int (0 : Int32)) := D318 (Or.inl (w_86 hw)) (ty := .int) (by decide)
  have Fn318_maybeLatin1 : Fld Z h318 b318 "java/lang/AbstractStringBuilder" "maybeLatin1" "Z" (.int (0 : Int32)) := D318 (Or.inl (w_208 hw)) (ty := .boolean) (by decide)
  refine k_dup X318 d_prog_28_1_8 rfl (pc' := 9) rfl ?_
  have ge319 : n0 ≤ b318 := by omega
  refine k_callPNF X318 (y := (⟨"java/lang/StringBuilder", "<init>", "()V"⟩ : MethodName)) d_prog_28_1_9 (w_46 hw) (w_47 hw) (w_45 hw) (w_48 hw) (by decide) rfl rfl (argsL := []) (rest := [(.ref b318), (.ref o)]) (own_sbI l Z a0 hw G n0 h318 X318.old b318 ge319 E318 Fn318_value Fn318_coder Fn318_count Fn318_maybeLatin1) rfl pd_16 rfl rfl (by decide) (W := 2) (Nat.le_of_eq rfl) (by decide) (by decide) (by decide) (allS ⟨trivial, ge319⟩ all0) (pc' := 12) rfl ?_
  rintro T322 h322 L322 X322 K322 ⟨bv_320, kb_321, q322_0, q322_1, q322_2, q322_3, q322_4, q322_5, q322_6⟩
  have sz_h322 := K322.1
  have od323 : h0.size ≤ b318 := by omega
  have K0_h322 : Keep h0 h322 [o] := K0_h318.trans K322 (allS (Or.inr od323) all0)
  have lt322_0 := own_n q322_0.lt
  have lt322_1 := own_n q322_1.lt
  have lt322_2 := own_n q322_2.lt
  have lt322_3 := own_n q322_3.lt
  have lt322_4 := own_n q322_4.lt
  have lt322_5 := own_n q322_5.lt
  have ne324 : (o : Nat) ≠ b318 := own_ne (by omega)
  have c325 := ((q1.keep K318 nin0).keep K322 (ninS ne324 nin0))
  have c326 := ((q0.keep K318).keep K322)
  have ge328 : n0 ≤ o := by omega
  refine k_putF X322 d_prog_28_1_12 (host := "") (Or.inl (w_61 hw)) Via.refl c325 c326 (Or.inr ⟨(w_62 hw), rfl, X322.hnm⟩) (w_37 hw) (ty := (.object "java/lang/StringBuilder")) (by decide) rfl rfl trivial ge328 (pc' := 15) rfl fun T327 h327 L327 X327 W327 K327 => ?_
  have sz_h327 := K327.1
  have K0_h327 : Keep h0 h327 [o] := K0_h322.trans K327 (allS (Or.inl (List.mem_of_getElem? (i := 0) rfl)) all0)
  have F327 := c325.same W327
  refine k_aloadN X327 d_prog_28_1_15 rfl rfl (pc' := 16) rfl ?_
  refine k_bipush X327 d_prog_28_1_16 (w := (16 : Int32)) rfl (pc' := 18) rfl ?_
  refine k_newP X327 d_prog_28_1_18 (w_63 hw) (by decide) (cap := 16) (by decide) (by decide) (by decide) (by decide) (pc' := 20) rfl fun T329 h329 b329 k329 g329 X329 K329 V329 S329 lt329 ge329 => ?_
  have sz_h329 := K329.1
  have K0_h329 : Keep h0 h329 [o] := K0_h327.trans K329 all0
  have V329' : Arv Z h329 b329 k329 .int (16 : Int32) [(.int (0 : Int32)), (.int (0 : Int32)), (.int (0 : Int32)), (.int (0 : Int32)), (.int (0 : Int32)), (.int (0 : Int32)), (.int (0 : Int32)), (.int (0 : Int32)), (.int (0 : Int32)), (.int (0 : Int32)), (.int (0 : Int32)), (.int (0 : Int32)), (.int (0 : Int32)), (.int (0 : Int32)), (.int (0 : Int32)), (.int (0 : Int32))] (.int (0 : Int32)) := Arv.pad V329 (pad_rep [] (.int (0 : Int32)) 16)
  have c330 := ((((q2.keep K318 nin0).keep K322 (ninS ne324 nin0)).other W327 (Or.inr (slot_ne (Or.inl (w_65 hw)) (Or.inr (w_62 hw)) (by decide) (t := (.array .int)) (t' := (.object "java/lang/StringBuilder")) (by decide) (by decide)))).keep K329 nin0)
  have c331 := ((c326.keep K327).keep K329)
  refine k_putF X329 d_prog_28_1_20 (host := "") (Or.inl (w_64 hw)) Via.refl c330 c331 (Or.inl (w_65 hw)) (w_37 hw) (ty := (.array .int)) (by decide) rfl rfl trivial ge328 (pc' := 23) rfl fun T332 h332 L332 X332 W332 K332 => ?_
  have sz_h332 := K332.1
  have K0_h332 : Keep h0 h332 [o] := K0_h329.trans K332 (allS (Or.inl (List.mem_of_getElem? (i := 0) rfl)) all0)
  have F332 := c330.same W332
  refine k_aloadN X332 d_prog_28_1_23 rfl rfl (pc' := 24) rfl ?_
  refine k_bipush X332 d_prog_28_1_24 (w := (16 : Int32)) rfl (pc' := 26) rfl ?_
  refine k_newP X332 d_prog_28_1_26 (w_63 hw) (by decide) (cap := 16) (by decide) (by decide) (by decide) (by decide) (pc' := 28) rfl fun T333 h333 b333 k333 g333 X333 K333 V333 S333 lt333 ge333 => ?_
  have sz_h333 := K333.1
  have K0_h333 : Keep h0 h333 [o] := K0_h332.trans K333 all0
  have V333' : Arv Z h333 b333 k333 .int (16 : Int32) [(.int (0 : Int32)), (.int (0 : Int32)), (.int (0 : Int32)), (.int (0 : Int32)), (.int (0 : Int32)), (.int (0 : Int32)), (.int (0 : Int32)), (.int (0 : Int32)), (.int (0 : Int32)), (.int (0 : Int32)), (.int (0 : Int32)), (.int (0 : Int32)), (.int (0 : Int32)), (.int (0 : Int32)), (.int (0 : Int32)), (.int (0 : Int32))] (.int (0 : Int32)) := Arv.pad V333 (pad_rep [] (.int (0 : Int32)) 16)
  have c334 := ((((((q3.keep K318 nin0).keep K322 (ninS ne324 nin0)).other W327 (Or.inr (slot_ne (Or.inl (w_67 hw)) (Or.inr (w_62 hw)) (by decide) (t := (.array .int)) (t' := (.object "java/lang/StringBuilder")) (by decide) (by decide)))).keep K329 nin0).other W332 (Or.inr (slot_ne (Or.inl (w_67 hw)) (Or.inl (w_65 hw)) (by decide) (t := (.array .int)) (t' := (.array .int)) (by decide) (by decide)))).keep K333 nin0)
  have c335 := ((c331.keep K332).keep K333)
  refine k_putF X333 d_prog_28_1_28 (host := "") (Or.inl (w_66 hw)) Via.refl c334 c335 (Or.inl (w_67 hw)) (w_37 hw) (ty := (.array .int)) (by decide) rfl rfl trivial ge328 (pc' := 31) rfl fun T336 h336 L336 X336 W336 K336 => ?_
  have sz_h336 := K336.1
  have K0_h336 : Keep h0 h336 [o] := K0_h333.trans K336 (allS (Or.inl (List.mem_of_getElem? (i := 0) rfl)) all0)
  have F336 := c334.same W336
  have c337 := (c335.keep K336)
  have c338 := ((((F327.keep K329 nin0).other W332 (Or.inr (slot_ne (Or.inr (w_62 hw)) (Or.inl (w_65 hw)) (by decide) (t := (.object "java/lang/StringBuilder")) (t' := (.array .int)) (by decide) (by decide)))).keep K333 nin0).other W336 (Or.inr (slot_ne (Or.inr (w_62 hw)) (Or.inl (w_67 hw)) (by decide) (t := (.object "java/lang/StringBuilder")) (t' := (.array .int)) (by decide) (by decide))))
  have c339 := ((F332.keep K333 nin0).other W336 (Or.inr (slot_ne (Or.inl (w_65 hw)) (Or.inl (w_67 hw)) (by decide) (t := (.array .int)) (t' := (.array .int)) (by decide) (by decide))))
  have c340 := (((((((q4.keep K318 nin0).keep K322 (ninS ne324 nin0)).other W327 (Or.inr (slot_ne (Or.inl (w_74 hw)) (Or.inr (w_62 hw)) (by decide) (t := .int) (t' := (.object "java/lang/StringBuilder")) (by decide) (by decide)))).keep K329 nin0).other W332 (Or.inr (slot_ne (Or.inl (w_74 hw)) (Or.inl (w_65 hw)) (by decide) (t := .int) (t' := (.array .int)) (by decide) (by decide)))).keep K333 nin0).other W336 (Or.inr (slot_ne (Or.inl (w_74 hw)) (Or.inl (w_67 hw)) (by decide) (t := .int) (t' := (.array .int)) (by decide) (by decide))))
  have c341 := (((((((q5.keep K318 nin0).keep K322 (ninS ne324 nin0)).other W327 (Or.inr (slot_ne (Or.inl (w_132 hw)) (Or.inr (w_62 hw)) (by decide) (t := (.object "java/lang/String")) (t' := (.object "java/lang/StringBuilder")) (by decide) (by decide)))).keep K329 nin0).other W332 (Or.inr (slot_ne (Or.inl (w_132 hw)) (Or.inl (w_65 hw)) (by decide) (t := (.object "java/lang/String")) (t' := (.array .int)) (by decide) (by decide)))).keep K333 nin0).other W336 (Or.inr (slot_ne (Or.inl (w_132 hw)) (Or.inl (w_67 hw)) (by decide) (t := (.object "java/lang/String")) (t' := (.array .int)) (by decide) (by decide))))
  have c342 := (((((q322_0.keep K327).keep K329).keep K332).keep K333).keep K336)
  have ne343 : (b318 : Nat) ≠ o := own_ne (by omega)
  have c344 := (((((q322_1.keep K327 (ninS ne343 nin0)).keep K329 nin0).keep K332 (ninS ne343 nin0)).keep K333 nin0).keep K336 (ninS ne343 nin0))
  have c345 := (((((q322_2.keep K327 (ninS ne343 nin0)).keep K329 nin0).keep K332 (ninS ne343 nin0)).keep K333 nin0).keep K336 (ninS ne343 nin0))
  have c346 := (((((q322_3.keep K327 (ninS ne343 nin0)).keep K329 nin0).keep K332 (ninS ne343 nin0)).keep K333 nin0).keep K336 (ninS ne343 nin0))
  have c347 := (((((q322_4.keep K327 (ninS ne343 nin0)).keep K329 nin0).keep K332 (ninS ne343 nin0)).keep K333 nin0).keep K336 (ninS ne343 nin0))
  have ne348 : (bv_320 : Nat) ≠ o := own_ne (by omega)
  have c349 := (((((q322_5.keep K327 (ninS ne348 nin0)).keep K329 nin0).keep K332 (ninS ne348 nin0)).keep K333 nin0).keep K336 (ninS ne348 nin0))
  have ne350 : (b329 : Nat) ≠ o := own_ne (by omega)
  have c351 := (((V329'.keep K332 (ninS ne350 nin0)).keep K333 nin0).keep K336 (ninS ne350 nin0))
  have ne352 : (b333 : Nat) ≠ o := own_ne (by omega)
  have c353 := (V333'.keep K336 (ninS ne352 nin0))
  exact k_retFV X336 d_prog_28_1_31 rfl K0_h336 ⟨rfl, _, _, _, _, _, _, _, c337, c338, c339, F336, c340, c341, c342, c344, c345, c346, c347, c349, c351, c353, by omega, by omega, by omega, by omega, ⟨by omega, by omega, by omega⟩⟩ (by decide) (by decide)
set_option maxRecDepth 65536 in
set_option maxHeartbeats 40000000 in
theorem own_stN (l : Launch) (Z : State) (a0 : Array Value) (hw : ∀ d ∈ tables_1, d.before a0 Z = true) {zc : Int32} {fm : Value}  (G : Gl Z zc fm) (n0 : Nat) (h0 : Heap) (O0 : Old Z n0 h0) (o : Nat) (d : Int32)   :
    MetF l [] Z n0 (⟨"com/example/colophon/colophon/OpenIds", "startElement", "(ILjava/lang/String;)V"⟩ : MethodName) prog_28_method_2_code 3 (Option.none : Option FieldType) ({ frames := 0, cells := 0, slots := 0, locals := 0 } : Room) #[(.ref o), (.int d), .null] h0 [] (fun r h' => r = none ∧ True) := by
  refine metF (plainFor_of_name pn_9) O0 (Ls := #[.val (.ref o), .val (.int d), .val .null]) (fun m => by first | (simp [entryFrame, mkF, argsToLocals, Value.category]; done) | rfl) ?_
  intro p e s m below meth c T0 X0
  have K0_h0 := Keep.refl h0 []
  have n0le := X0.n0le
  obtain ⟨G_cs, G_zc, G_fm, isref_fm⟩ := id G
  refine k_aloadN X0 d_prog_28_2_0 rfl rfl (pc' := 1) rfl ?_
  refine k_ifnonnullNo X0 d_prog_28_2_1 (pc' := 4) rfl ?_
  exact k_retFV X0 d_prog_28_2_4 rfl K0_h0 ⟨rfl, trivial⟩ (by decide) (by decide)
set_option maxRecDepth 65536 in
set_option maxHeartbeats 40000000 in
theorem own_st0 (l : Launch) (Z : State) (a0 : Array Value) (hw : ∀ d ∈ tables_1, d.before a0 Z = true) {zc : Int32} {fm : Value}  (G : Gl Z zc fm) (n0 : Nat) (h0 : Heap) (O0 : Old Z n0 h0) (o : Nat) (sb : Nat) (dp : Nat) (sp : Nat) (kd : ClassId) (ks : ClassId) (bv : Nat) (kb : ClassId) (nv : Int32) (B : List Int32) (mb : Int32) (d : Int32) (x : Nat) (t : Nat) (kt : ClassId) (cs : List Int32) (pq : Nat) (hnv : nv = Int32.ofNat pq) (hBl : B.length = 16) (hpc : pq + cs.length ≤ 16) (hl1 : own_l1 cs) (hfar : own_far [o, sb, bv, dp, sp, x]) (hfar2 : own_far [o, sb, bv, dp, sp, t]) (gw0 : n0 ≤ o) (gw1 : n0 ≤ sb) (gw2 : n0 ≤ bv) (gw3 : n0 ≤ dp) (gw4 : n0 ≤ sp) (q0 : Exa Z h0 o "com/example/colophon/colophon/OpenIds") (q1 : Fld Z h0 o "com/example/colophon/colophon/OpenIds" "characters" "Ljava/lang/StringBuilder;" (.ref sb)) (q2 : Fld Z h0 o "com/example/colophon/colophon/OpenIds" "depths" "[I" (.ref dp)) (q3 : Fld Z h0 o "com/example/colophon/colophon/OpenIds" "starts" "[I" (.ref sp)) (q4 : Fld Z h0 o "com/example/colophon/colophon/OpenIds" "count" "I" (.int (0 : Int32))) (q5 : Fld Z h0 o "com/example/colophon/colophon/OpenIds" "innermost" "Ljava/lang/String;" .null) (q6 : Exa Z h0 sb "java/lang/StringBuilder") (q7 : Fld Z h0 sb "java/lang/AbstractStringBuilder" "value" "[B" (.ref bv)) (q8 : Fld Z h0 sb "java/lang/AbstractStringBuilder" "coder" "B" (.int (0 : Int32))) (q9 : Fld Z h0 sb "java/lang/AbstractStringBuilder" "count" "I" (.int nv)) (q10 : Fld Z h0 sb "java/lang/AbstractStringBuilder" "maybeLatin1" "Z" (.int mb)) (q11 : Arv Z h0 bv kb .byte (16 : Int32) (own_lat B) (.int (0 : Int32))) (q12 : Arv Z h0 dp kd .int (16 : Int32) [(.int (0 : Int32)), (.int (0 : Int32)), (.int (0 : Int32)), (.int (0 : Int32)), (.int (0 : Int32)), (.int (0 : Int32)), (.int (0 : Int32)), (.int (0 : Int32)), (.int (0 : Int32)), (.int (0 : Int32)), (.int (0 : Int32)), (.int (0 : Int32)), (.int (0 : Int32)), (.int (0 : Int32)), (.int (0 : Int32)), (.int (0 : Int32))] (.int (0 : Int32))) (q13 : Arv Z h0 sp ks .int (16 : Int32) [(.int (0 : Int32)), (.int (0 : Int32)), (.int (0 : Int32)), (.int (0 : Int32)), (.int (0 : Int32)), (.int (0 : Int32)), (.int (0 : Int32)), (.int (0 : Int32)), (.int (0 : Int32)), (.int (0 : Int32)), (.int (0 : Int32)), (.int (0 : Int32)), (.int (0 : Int32)), (.int (0 : Int32)), (.int (0 : Int32)), (.int (0 : Int32))] (.int (0 : Int32))) (q14 : Exa Z h0 x "java/lang/String") (q15 : Fld Z h0 x "java/lang/String" "value" "[B" (.ref t)) (q16 : Fld Z h0 x "java/lang/String" "coder" "B" (.int (0 : Int32))) (q17 : Arv Z h0 t kt .byte (Int32.ofNat cs.length) (own_lat cs) (.int (0 : Int32))) :
    MetF l [] Z n0 (⟨"com/example/colophon/colophon/OpenIds", "startElement", "(ILjava/lang/String;)V"⟩ : MethodName) prog_28_method_2_code 3 (Option.none : Option FieldType) ({ frames := 5, cells := 0, slots := 0, locals := 74 } : Room) #[(.ref o), (.int d), (.ref x)] h0 [o, sb, bv, dp, sp] (fun r h' => r = none ∧ (Exa Z h' o "com/example/colophon/colophon/OpenIds") ∧ (Fld Z h' o "com/example/colophon/colophon/OpenIds" "characters" "Ljava/lang/StringBuilder;" (.ref sb)) ∧ (Fld Z h' o "com/example/colophon/colophon/OpenIds" "depths" "[I" (.ref dp)) ∧ (Fld Z h' o "com/example/colophon/colophon/OpenIds" "starts" "[I" (.ref sp)) ∧ (Fld Z h' o "com/example/colophon/colophon/OpenIds" "count" "I" (.int (1 : Int32))) ∧ (Fld Z h' o "com/example/colophon/colophon/OpenIds" "innermost" "Ljava/lang/String;" (.ref x)) ∧ (Exa Z h' sb "java/lang/StringBuilder") ∧ (Fld Z h' sb "java/lang/AbstractStringBuilder" "value" "[B" (.ref bv)) ∧ (Fld Z h' sb "java/lang/AbstractStringBuilder" "coder" "B" (.int (0 : Int32))) ∧ (Fld Z h' sb "java/lang/AbstractStringBuilder" "count" "I" (.int (Int32.ofNat (pq + cs.length)))) ∧ (Fld Z h' sb "java/lang/AbstractStringBuilder" "maybeLatin1" "Z" (.int mb)) ∧ (Arv Z h' bv kb .byte (16 : Int32) (own_lat (own_put B pq cs)) (.int (0 : Int32))) ∧ (Arv Z h' dp kd .int (16 : Int32) [(.int d), (.int (0 : Int32)), (.int (0 : Int32)), (.int (0 : Int32)), (.int (0 : Int32)), (.int (0 : Int32)), (.int (0 : Int32)), (.int (0 : Int32)), (.int (0 : Int32)), (.int (0 : Int32)), (.int (0 : Int32)), (.int (0 : Int32)), (.int (0 : Int32)), (.int (0 : Int32)), (.int (0 : Int32)), (.int (0 : Int32))] (.int (0 : Int32))) ∧ (Arv Z h' sp ks .int (16 : Int32) [(.int nv), (.int (0 : Int32)), (.int (0 : Int32)), (.int (0 : Int32)), (.int (0 : Int32)), (.int (0 : Int32)), (.int (0 : Int32)), (.int (0 : Int32)), (.int (0 : Int32)), (.int (0 : Int32)), (.int (0 : Int32)), (.int (0 : Int32)), (.int (0 : Int32)), (.int (0 : Int32)), (.int (0 : Int32)), (.int (0 : Int32))] (.int (0 : Int32)))) := by
  refine metF (plainFor_of_name pn_9) O0 (Ls := #[.val (.ref o), .val (.int d), .val (.ref x)]) (fun m => by first | (simp [entryFrame, mkF, argsToLocals, Value.category]; done) | rfl) ?_
  intro p e s m below meth c T0 X0
  have K0_h0 := Keep.refl h0 [o, sb, bv, dp, sp]
  have n0le := X0.n0le
  have ltq0 := own_n q0.lt
  have ltq1 := own_n q1.lt
  have ltq2 := own_n q2.lt
  have ltq3 := own_n q3.lt
  have ltq4 := own_n q4.lt
  have ltq5 := own_n q5.lt
  have ltq6 := own_n q6.lt
  have ltq7 := own_n q7.lt
  have ltq8 := own_n q8.lt
  have ltq9 := own_n q9.lt
  have ltq10 := own_n q10.lt
  have ltq11 := own_n q11.lt
  have ltq12 := own_n q12.lt
  have ltq13 := own_n q13.lt
  have ltq14 := own_n q14.lt
  have ltq15 := own_n q15.lt
  have ltq16 := own_n q16.lt
  have ltq17 := own_n q17.lt
  obtain ⟨G_cs, G_zc, G_fm, isref_fm⟩ := id G
  have ltt := own_n q17.lt
  refine k_aloadN X0 d_prog_28_2_0 rfl rfl (pc' := 1) rfl ?_
  refine k_ifnonnullYes X0 d_prog_28_2_1 (pc' := 5) (by decide) (by decide) ?_
  refine k_aloadN X0 d_prog_28_2_5 rfl rfl (pc' := 6) rfl ?_
  refine k_getF X0 d_prog_28_2_6 (host := "") (Or.inl (w_73 hw)) Via.refl q4 (pc' := 9) rfl fun T354 X355 => ?_
  refine k_aloadN X355 d_prog_28_2_9 rfl rfl (pc' := 10) rfl ?_
  refine k_getF X355 d_prog_28_2_10 (host := "") (Or.inl (w_64 hw)) Via.refl q2 (pc' := 13) rfl fun T356 X357 => ?_
  refine k_arlen X357 d_prog_28_2_13 q12 (pc' := 14) rfl ?_
  refine k_icmpYes X357 d_prog_28_2_14 (by decide) (pc' := 51) (by decide) (by decide) ?_
  refine k_aloadN X357 d_prog_28_2_51 rfl rfl (pc' := 52) rfl ?_
  refine k_getF X357 d_prog_28_2_52 (host := "") (Or.inl (w_64 hw)) Via.refl q2 (pc' := 55) rfl fun T358 X359 => ?_
  refine k_aloadN X359 d_prog_28_2_55 rfl rfl (pc' := 56) rfl ?_
  refine k_getF X359 d_prog_28_2_56 (host := "") (Or.inl (w_73 hw)) Via.refl q4 (pc' := 59) rfl fun T360 X361 => ?_
  refine k_iloadN X361 d_prog_28_2_59 rfl (pc' := 60) rfl ?_
  have ge363 : n0 ≤ dp := by omega
  refine k_iastore X361 (w := d) 0 d_prog_28_2_60 q12 (by decide) (by decide) rfl (Nat.le_of_ble_eq_true rfl) rfl (vs' := [(.int d), (.int (0 : Int32)), (.int (0 : Int32)), (.int (0 : Int32)), (.int (0 : Int32)), (.int (0 : Int32)), (.int (0 : Int32)), (.int (0 : Int32)), (.int (0 : Int32)), (.int (0 : Int32)), (.int (0 : Int32)), (.int (0 : Int32)), (.int (0 : Int32)), (.int (0 : Int32)), (.int (0 : Int32)), (.int (0 : Int32))]) rfl trivial ge363 (pc' := 61) rfl fun T362 h362 L362 X362 K362 V362 => ?_
  have sz_h362 := K362.1
  have K0_h362 : Keep h0 h362 [o, sb, bv, dp, sp] := K0_h0.trans K362 (allS (Or.inl (List.mem_of_getElem? (i := 3) rfl)) all0)
  refine k_aloadN X362 d_prog_28_2_61 rfl rfl (pc' := 62) rfl ?_
  have c364 := (q3.keep K362 (ninS (own_farN hfar (i := 0) (j := 3) rfl rfl (by decide)) nin0))
  refine k_getF X362 d_prog_28_2_62 (host := "") (Or.inl (w_66 hw)) Via.refl c364 (pc' := 65) rfl fun T365 X366 => ?_
  refine k_aloadN X366 d_prog_28_2_65 rfl rfl (pc' := 66) rfl ?_
  have c367 := (q4.keep K362 (ninS (own_farN hfar (i := 0) (j := 3) rfl rfl (by decide)) nin0))
  refine k_getF X366 d_prog_28_2_66 (host := "") (Or.inl (w_73 hw)) Via.refl c367 (pc' := 69) rfl fun T368 X369 => ?_
  refine k_aloadN X369 d_prog_28_2_69 rfl rfl (pc' := 70) rfl ?_
  have c370 := (q1.keep K362 (ninS (own_farN hfar (i := 0) (j := 3) rfl rfl (by decide)) nin0))
  refine k_getF X369 d_prog_28_2_70 (host := "") (Or.inl (w_61 hw)) Via.refl c370 (pc' := 73) rfl fun T371 X372 => ?_
  have c373 := (q6.keep K362)
  have c374 := (q9.keep K362 (ninS (own_farN hfar (i := 1) (j := 3) rfl rfl (by decide)) nin0))
  refine k_callVVF X372 (y := (⟨"java/lang/StringBuilder", "length", "()I"⟩ : MethodName)) d_prog_28_2_73 (w_75 hw) (w_76 hw) (w_78 hw) (w_77 hw) (w_45 hw) (w_79 hw) (by decide) (notFace_of_selects (args := #[]) (mvT X372.hZ (w_78 hw))) c373 (argsL := []) (rest := [(.int (0 : Int32)), (.ref sp)]) (own_sbL l Z a0 hw G n0 h362 X372.old sb nv c373 c374) rfl pd_10 rfl rfl (by decide) (W := 2) (Nat.le_of_eq rfl) (by decide) (by decide) (by decide) all0 (pc' := 76) rfl ?_
  rintro _ T375 h375 L375 X375 K375 ⟨rfl, -⟩
  have sz_h375 := K375.1
  have K0_h375 : Keep h0 h375 [o, sb, bv, dp, sp] := K0_h362.trans K375 all0
  have c377 := ((q13.keep K362 (ninS (own_farN hfar (i := 4) (j := 3) rfl rfl (by decide)) nin0)).keep K375 nin0)
  have ge379 : n0 ≤ sp := by omega
  refine k_iastore X375 (w := nv) 0 d_prog_28_2_76 c377 (by decide) (by decide) rfl (Nat.le_of_ble_eq_true rfl) rfl (vs' := [(.int nv), (.int (0 : Int32)), (.int (0 : Int32)), (.int (0 : Int32)), (.int (0 : Int32)), (.int (0 : Int32)), (.int (0 : Int32)), (.int (0 : Int32)), (.int (0 : Int32)), (.int (0 : Int32)), (.int (0 : Int32)), (.int (0 : Int32)), (.int (0 : Int32)), (.int (0 : Int32)), (.int (0 : Int32)), (.int (0 : Int32))]) rfl trivial ge379 (pc' := 77) rfl fun T378 h378 L378 X378 K378 V378 => ?_
  have sz_h378 := K378.1
  have K0_h378 : Keep h0 h378 [o, sb, bv, dp, sp] := K0_h375.trans K378 (allS (Or.inl (List.mem_of_getElem? (i := 4) rfl)) all0)
  refine k_aloadN X378 d_prog_28_2_77 rfl rfl (pc' := 78) rfl ?_
  refine k_dup X378 d_prog_28_2_78 rfl (pc' := 79) rfl ?_
  have c380 := ((c367.keep K375 nin0).keep K378 (ninS (own_farN hfar (i := 0) (j := 4) rfl rfl (by decide)) nin0))
  refine k_getF X378 d_prog_28_2_79 (host := "") (Or.inl (w_73 hw)) Via.refl c380 (pc' := 82) rfl fun T381 X382 => ?_
  refine k_iconst X382 d_prog_28_2_82 (w := (1 : Int32)) rfl (pc' := 83) rfl ?_
  refine k_iadd X382 d_prog_28_2_83 (w := (1 : Int32)) (by decide) (pc' := 84) rfl ?_
  have c383 := (((q0.keep K362).keep K375).keep K378)
  have ge385 : n0 ≤ o := by omega
  refine k_putF X382 d_prog_28_2_84 (host := "") (Or.inl (w_73 hw)) Via.refl c380 c383 (Or.inl (w_74 hw)) (w_37 hw) (ty := .int) (by decide) rfl rfl trivial ge385 (pc' := 87) rfl fun T384 h384 L384 X384 W384 K384 => ?_
  have sz_h384 := K384.1
  have K0_h384 : Keep h0 h384 [o, sb, bv, dp, sp] := K0_h378.trans K384 (allS (Or.inl (List.mem_of_getElem? (i := 0) rfl)) all0)
  have F384 := c380.same W384
  refine k_aloadN X384 d_prog_28_2_87 rfl rfl (pc' := 88) rfl ?_
  have c386 := (((c370.keep K375 nin0).keep K378 (ninS (own_farN hfar (i := 0) (j := 4) rfl rfl (by decide)) nin0)).other W384 (Or.inr (slot_ne (Or.inr (w_62 hw)) (Or.inl (w_74 hw)) (by decide) (t := (.object "java/lang/StringBuilder")) (t' := .int) (by decide) (by decide))))
  refine k_getF X384 d_prog_28_2_88 (host := "") (Or.inl (w_61 hw)) Via.refl c386 (pc' := 91) rfl fun T387 X388 => ?_
  refine k_aloadN X388 d_prog_28_2_91 rfl rfl (pc' := 92) rfl ?_
  have c389 := (((c373.keep K375).keep K378).keep K384)
  have c390 := ((((q7.keep K362 (ninS (own_farN hfar (i := 1) (j := 3) rfl rfl (by decide)) nin0)).keep K375 nin0).keep K378 (ninS (own_farN hfar (i := 1) (j := 4) rfl rfl (by decide)) nin0)).keep K384 (ninS (own_farN hfar (i := 1) (j := 0) rfl rfl (by decide)) nin0))
  have c391 := ((((q8.keep K362 (ninS (own_farN hfar (i := 1) (j := 3) rfl rfl (by decide)) nin0)).keep K375 nin0).keep K378 (ninS (own_farN hfar (i := 1) (j := 4) rfl rfl (by decide)) nin0)).keep K384 (ninS (own_farN hfar (i := 1) (j := 0) rfl rfl (by decide)) nin0))
  have c392 := (((c374.keep K375 nin0).keep K378 (ninS (own_farN hfar (i := 1) (j := 4) rfl rfl (by decide)) nin0)).keep K384 (ninS (own_farN hfar (i := 1) (j := 0) rfl rfl (by decide)) nin0))
  have c393 := ((((q10.keep K362 (ninS (own_farN hfar (i := 1) (j := 3) rfl rfl (by decide)) nin0)).keep K375 nin0).keep K378 (ninS (own_farN hfar (i := 1) (j := 4) rfl rfl (by decide)) nin0)).keep K384 (ninS (own_farN hfar (i := 1) (j := 0) rfl rfl (by decide)) nin0))
  have c394 := ((((q11.keep K362 (ninS (own_farN hfar (i := 2) (j := 3) rfl rfl (by decide)) nin0)).keep K375 nin0).keep K378 (ninS (own_farN hfar (i := 2) (j := 4) rfl rfl (by decide)) nin0)).keep K384 (ninS (own_farN hfar (i := 2) (j := 0) rfl rfl (by decide)) nin0))
  have c395 := ((((q14.keep K362).keep K375).keep K378).keep K384)
  have c396 := ((((q15.keep K362 (ninS (own_farN hfar (i := 5) (j := 3) rfl rfl (by decide)) nin0)).keep K375 nin0).keep K378 (ninS (own_farN hfar (i := 5) (j := 4) rfl rfl (by decide)) nin0)).keep K384 (ninS (own_farN hfar (i := 5) (j := 0) rfl rfl (by decide)) nin0))
  have c397 := ((((q16.keep K362 (ninS (own_farN hfar (i := 5) (j := 3) rfl rfl (by decide)) nin0)).keep K375 nin0).keep K378 (ninS (own_farN hfar (i := 5) (j := 4) rfl rfl (by decide)) nin0)).keep K384 (ninS (own_farN hfar (i := 5) (j := 0) rfl rfl (by decide)) nin0))
  have c398 := ((((q17.keep K362 (ninS (own_farN hfar2 (i := 5) (j := 3) rfl rfl (by decide)) nin0)).keep K375 nin0).keep K378 (ninS (own_farN hfar2 (i := 5) (j := 4) rfl rfl (by decide)) nin0)).keep K384 (ninS (own_farN hfar2 (i := 5) (j := 0) rfl rfl (by decide)) nin0))
  have ge399 : n0 ≤ sb := by omega
  have ge400 : n0 ≤ bv := by omega
  refine k_callVVF X388 (y := (⟨"java/lang/StringBuilder", "append", "(Ljava/lang/String;)Ljava/lang/StringBuilder;"⟩ : MethodName)) d_prog_28_2_92 (w_87 hw) (w_88 hw) (w_90 hw) (w_89 hw) (w_45 hw) (w_91 hw) (by decide) (notFace_of_selects (args := #[]) (mvT X388.hZ (w_90 hw))) c389 (argsL := [(.ref x)]) (rest := []) (own_sbA l Z a0 hw G n0 h384 X388.old sb x bv kb nv B mb t kt cs pq hnv hBl hpc hl1 (own_farO hfar (i := 2) (j := 5) rfl rfl (by decide)) (own_farO hfar2 (i := 2) (j := 5) rfl rfl (by decide)) (own_farO hfar (i := 2) (j := 1) rfl rfl (by decide)) (own_farO hfar (i := 1) (j := 5) rfl rfl (by decide)) (own_farO hfar2 (i := 1) (j := 5) rfl rfl (by decide)) ge399 ge400 c389 c390 c391 c392 c393 c394 c395 c396 c397 c398) rfl pd_17 rfl rfl (by decide) (W := 0) (Nat.le_of_eq rfl) (by decide) (by decide) (by decide) (allS ⟨trivial, ge399⟩ (allS ⟨trivial, ge400⟩ all0)) (pc' := 95) rfl ?_
  rintro _ T401 h401 L401 X401 K401 ⟨rfl, q401_0, q401_1, q401_2, q401_3, q401_4, q401_5⟩
  have sz_h401 := K401.1
  have K0_h401 : Keep h0 h401 [o, sb, bv, dp, sp] := K0_h384.trans K401 (allS (Or.inl (List.mem_of_getElem? (i := 1) rfl)) (allS (Or.inl (List.mem_of_getElem? (i := 2) rfl)) all0))
  have lt401_0 := own_n q401_0.lt
  have lt401_1 := own_n q401_1.lt
  have lt401_2 := own_n q401_2.lt
  have lt401_3 := own_n q401_3.lt
  have lt401_4 := own_n q401_4.lt
  have lt401_5 := own_n q401_5.lt
  refine k_pop X401 d_prog_28_2_95 rfl (pc' := 96) rfl ?_
  refine k_aloadN X401 d_prog_28_2_96 rfl rfl (pc' := 97) rfl ?_
  refine k_aloadN X401 d_prog_28_2_97 rfl rfl (pc' := 98) rfl ?_
  have c403 := (((((q5.keep K362 (ninS (own_farN hfar (i := 0) (j := 3) rfl rfl (by decide)) nin0)).keep K375 nin0).keep K378 (ninS (own_farN hfar (i := 0) (j := 4) rfl rfl (by decide)) nin0)).other W384 (Or.inr (slot_ne (Or.inl (w_132 hw)) (Or.inl (w_74 hw)) (by decide) (t := (.object "java/lang/String")) (t' := .int) (by decide) (by decide)))).keep K401 (ninS (own_farN hfar (i := 0) (j := 1) rfl rfl (by decide)) (ninS (own_farN hfar (i := 0) (j := 2) rfl rfl (by decide)) nin0)))
  have c404 := ((c383.keep K384).keep K401)
  refine k_putF X401 d_prog_28_2_98 (host := "") (Or.inl (w_131 hw)) Via.refl c403 c404 (Or.inl (w_132 hw)) (w_37 hw) (ty := (.object "java/lang/String")) (by decide) rfl rfl trivial ge385 (pc' := 101) rfl fun T405 h405 L405 X405 W405 K405 => ?_
  have sz_h405 := K405.1
  have K0_h405 : Keep h0 h405 [o, sb, bv, dp, sp] := K0_h401.trans K405 (allS (Or.inl (List.mem_of_getElem? (i := 0) rfl)) all0)
  have F405 := c403.same W405
  have c406 := (c404.keep K405)
  have c407 := ((c386.keep K401 (ninS (own_farN hfar (i := 0) (j := 1) rfl rfl (by decide)) (ninS (own_farN hfar (i := 0) (j := 2) rfl rfl (by decide)) nin0))).other W405 (Or.inr (slot_ne (Or.inr (w_62 hw)) (Or.inl (w_132 hw)) (by decide) (t := (.object "java/lang/StringBuilder")) (t' := (.object "java/lang/String")) (by decide) (by decide))))
  have c408 := ((((((q2.keep K362 (ninS (own_farN hfar (i := 0) (j := 3) rfl rfl (by decide)) nin0)).keep K375 nin0).keep K378 (ninS (own_farN hfar (i := 0) (j := 4) rfl rfl (by decide)) nin0)).other W384 (Or.inr (slot_ne (Or.inl (w_65 hw)) (Or.inl (w_74 hw)) (by decide) (t := (.array .int)) (t' := .int) (by decide) (by decide)))).keep K401 (ninS (own_farN hfar (i := 0) (j := 1) rfl rfl (by decide)) (ninS (own_farN hfar (i := 0) (j := 2) rfl rfl (by decide)) nin0))).other W405 (Or.inr (slot_ne (Or.inl (w_65 hw)) (Or.inl (w_132 hw)) (by decide) (t := (.array .int)) (t' := (.object "java/lang/String")) (by decide) (by decide))))
  have c409 := (((((c364.keep K375 nin0).keep K378 (ninS (own_farN hfar (i := 0) (j := 4) rfl rfl (by decide)) nin0)).other W384 (Or.inr (slot_ne (Or.inl (w_67 hw)) (Or.inl (w_74 hw)) (by decide) (t := (.array .int)) (t' := .int) (by decide) (by decide)))).keep K401 (ninS (own_farN hfar (i := 0) (j := 1) rfl rfl (by decide)) (ninS (own_farN hfar (i := 0) (j := 2) rfl rfl (by decide)) nin0))).other W405 (Or.inr (slot_ne (Or.inl (w_67 hw)) (Or.inl (w_132 hw)) (by decide) (t := (.array .int)) (t' := (.object "java/lang/String")) (by decide) (by decide))))
  have c410 := ((F384.keep K401 (ninS (own_farN hfar (i := 0) (j := 1) rfl rfl (by decide)) (ninS (own_farN hfar (i := 0) (j := 2) rfl rfl (by decide)) nin0))).other W405 (Or.inr (slot_ne (Or.inl (w_74 hw)) (Or.inl (w_132 hw)) (by decide) (t := .int) (t' := (.object "java/lang/String")) (by decide) (by decide))))
  have c411 := (q401_0.keep K405)
  have c412 := (q401_1.keep K405 (ninS (own_farN hfar (i := 1) (j := 0) rfl rfl (by decide)) nin0))
  have c413 := (q401_2.keep K405 (ninS (own_farN hfar (i := 1) (j := 0) rfl rfl (by decide)) nin0))
  have c414 := (q401_3.keep K405 (ninS (own_farN hfar (i := 1) (j := 0) rfl rfl (by decide)) nin0))
  have c415 := (q401_4.keep K405 (ninS (own_farN hfar (i := 1) (j := 0) rfl rfl (by decide)) nin0))
  have c416 := (q401_5.keep K405 (ninS (own_farN hfar (i := 2) (j := 0) rfl rfl (by decide)) nin0))
  have c417 := (((((V362.keep K375 nin0).keep K378 (ninS (own_farN hfar (i := 3) (j := 4) rfl rfl (by decide)) nin0)).keep K384 (ninS (own_farN hfar (i := 3) (j := 0) rfl rfl (by decide)) nin0)).keep K401 (ninS (own_farN hfar (i := 3) (j := 1) rfl rfl (by decide)) (ninS (own_farN hfar (i := 3) (j := 2) rfl rfl (by decide)) nin0))).keep K405 (ninS (own_farN hfar (i := 3) (j := 0) rfl rfl (by decide)) nin0))
  have c418 := (((V378.keep K384 (ninS (own_farN hfar (i := 4) (j := 0) rfl rfl (by decide)) nin0)).keep K401 (ninS (own_farN hfar (i := 4) (j := 1) rfl rfl (by decide)) (ninS (own_farN hfar (i := 4) (j := 2) rfl rfl (by decide)) nin0))).keep K405 (ninS (own_farN hfar (i := 4) (j := 0) rfl rfl (by decide)) nin0))
  exact k_retFV X405 d_prog_28_2_101 rfl K0_h405 ⟨rfl, c406, c407, c408, c409, c410, F405, c411, c412, c413, c414, c415, c416, c417, c418⟩ (by decide) (by decide)
set_option maxRecDepth 65536 in
set_option maxHeartbeats 40000000 in
theorem own_st1 (l : Launch) (Z : State) (a0 : Array Value) (hw : ∀ d ∈ tables_1, d.before a0 Z = true) {zc : Int32} {fm : Value}  (G : Gl Z zc fm) (n0 : Nat) (h0 : Heap) (O0 : Old Z n0 h0) (o : Nat) (sb : Nat) (dp : Nat) (sp : Nat) (kd : ClassId) (ks : ClassId) (bv : Nat) (kb : ClassId) (nv : Int32) (B : List Int32) (mb : Int32) (d : Int32) (x : Nat) (x0 : Int32) (y0 : Int32) (t : Nat) (kt : ClassId) (cs : List Int32) (z : Nat) (pq : Nat) (hnv : nv = Int32.ofNat pq) (hBl : B.length = 16) (hpc : pq + cs.length ≤ 16) (hl1 : own_l1 cs) (hfar : own_far [o, sb, bv, dp, sp, x]) (hfar2 : own_far [o, sb, bv, dp, sp, t]) (gw0 : n0 ≤ o) (gw1 : n0 ≤ sb) (gw2 : n0 ≤ bv) (gw3 : n0 ≤ dp) (gw4 : n0 ≤ sp) (q0 : Exa Z h0 o "com/example/colophon/colophon/OpenIds") (q1 : Fld Z h0 o "com/example/colophon/colophon/OpenIds" "characters" "Ljava/lang/StringBuilder;" (.ref sb)) (q2 : Fld Z h0 o "com/example/colophon/colophon/OpenIds" "depths" "[I" (.ref dp)) (q3 : Fld Z h0 o "com/example/colophon/colophon/OpenIds" "starts" "[I" (.ref sp)) (q4 : Fld Z h0 o "com/example/colophon/colophon/OpenIds" "count" "I" (.int (1 : Int32))) (q5 : Fld Z h0 o "com/example/colophon/colophon/OpenIds" "innermost" "Ljava/lang/String;" (.ref z)) (q6 : Exa Z h0 sb "java/lang/StringBuilder") (q7 : Fld Z h0 sb "java/lang/AbstractStringBuilder" "value" "[B" (.ref bv)) (q8 : Fld Z h0 sb "java/lang/AbstractStringBuilder" "coder" "B" (.int (0 : Int32))) (q9 : Fld Z h0 sb "java/lang/AbstractStringBuilder" "count" "I" (.int nv)) (q10 : Fld Z h0 sb "java/lang/AbstractStringBuilder" "maybeLatin1" "Z" (.int mb)) (q11 : Arv Z h0 bv kb .byte (16 : Int32) (own_lat B) (.int (0 : Int32))) (q12 : Arv Z h0 dp kd .int (16 : Int32) [(.int x0), (.int (0 : Int32)), (.int (0 : Int32)), (.int (0 : Int32)), (.int (0 : Int32)), (.int (0 : Int32)), (.int (0 : Int32)), (.int (0 : Int32)), (.int (0 : Int32)), (.int (0 : Int32)), (.int (0 : Int32)), (.int (0 : Int32)), (.int (0 : Int32)), (.int (0 : Int32)), (.int (0 : Int32)), (.int (0 : Int32))] (.int (0 : Int32))) (q13 : Arv Z h0 sp ks .int (16 : Int32) [(.int y0), (.int (0 : Int32)), (.int (0 : Int32)), (.int (0 : Int32)), (.int (0 : Int32)), (.int (0 : Int32)), (.int (0 : Int32)), (.int (0 : Int32)), (.int (0 : Int32)), (.int (0 : Int32)), (.int (0 : Int32)), (.int (0 : Int32)), (.int (0 : Int32)), (.int (0 : Int32)), (.int (0 : Int32)), (.int (0 : Int32))] (.int (0 : Int32))) (q14 : Exa Z h0 x "java/lang/String") (q15 : Fld Z h0 x "java/lang/String" "value" "[B" (.ref t)) (q16 : Fld Z h0 x "java/lang/String" "coder" "B" (.int (0 : Int32))) (q17 : Arv Z h0 t kt .byte (Int32.ofNat cs.length) (own_lat cs) (.int (0 : Int32))) :
    MetF l [] Z n0 (⟨"com/example/colophon/colophon/OpenIds", "startElement", "(ILjava/lang/String;)V"⟩ : MethodName) prog_28_method_2_code 3 (Option.none : Option FieldType) ({ frames := 5, cells := 0, slots := 0, locals := 74 } : Room) #[(.ref o), (.int d), (.ref x)] h0 [o, sb, bv, dp, sp] (fun r h' => r = none ∧ (Exa Z h' o "com/example/colophon/colophon/OpenIds") ∧ (Fld Z h' o "com/example/colophon/colophon/OpenIds" "characters" "Ljava/lang/StringBuilder;" (.ref sb)) ∧ (Fld Z h' o "com/example/colophon/colophon/OpenIds" "depths" "[I" (.ref dp)) ∧ (Fld Z h' o "com/example/colophon/colophon/OpenIds" "starts" "[I" (.ref sp)) ∧ (Fld Z h' o "com/example/colophon/colophon/OpenIds" "count" "I" (.int (2 : Int32))) ∧ (Fld Z h' o "com/example/colophon/colophon/OpenIds" "innermost" "Ljava/lang/String;" (.ref x)) ∧ (Exa Z h' sb "java/lang/StringBuilder") ∧ (Fld Z h' sb "java/lang/AbstractStringBuilder" "value" "[B" (.ref bv)) ∧ (Fld Z h' sb "java/lang/AbstractStringBuilder" "coder" "B" (.int (0 : Int32))) ∧ (Fld Z h' sb "java/lang/AbstractStringBuilder" "count" "I" (.int (Int32.ofNat (pq + cs.length)))) ∧ (Fld Z h' sb "java/lang/AbstractStringBuilder" "maybeLatin1" "Z" (.int mb)) ∧ (Arv Z h' bv kb .byte (16 : Int32) (own_lat (own_put B pq cs)) (.int (0 : Int32))) ∧ (Arv Z h' dp kd .int (16 : Int32) [(.int x0), (.int d), (.int (0 : Int32)), (.int (0 : Int32)), (.int (0 : Int32)), (.int (0 : Int32)), (.int (0 : Int32)), (.int (0 : Int32)), (.int (0 : Int32)), (.int (0 : Int32)), (.int (0 : Int32)), (.int (0 : Int32)), (.int (0 : Int32)), (.int (0 : Int32)), (.int (0 : Int32)), (.int (0 : Int32))] (.int (0 : Int32))) ∧ (Arv Z h' sp ks .int (16 : Int32) [(.int y0), (.int nv), (.int (0 : Int32)), (.int (0 : Int32)), (.int (0 : Int32)), (.int (0 : Int32)), (.int (0 : Int32)), (.int (0 : Int32)), (.int (0 : Int32)), (.int (0 : Int32)), (.int (0 : Int32)), (.int (0 : Int32)), (.int (0 : Int32)), (.int (0 : Int32)), (.int (0 : Int32)), (.int (0 : Int32))] (.int (0 : Int32)))) := by
  refine metF (plainFor_of_name pn_9) O0 (Ls := #[.val (.ref o), .val (.int d), .val (.ref x)]) (fun m => by first | (simp [entryFrame, mkF, argsToLocals, Value.category]; done) | rfl) ?_
  intro p e s m below meth c T0 X0
  have K0_h0 := Keep.refl h0 [o, sb, bv, dp, sp]
  have n0le := X0.n0le
  have ltq0 := own_n q0.lt
  have ltq1 := own_n q1.lt
  have ltq2 := own_n q2.lt
  have ltq3 := own_n q3.lt
  have ltq4 := own_n q4.lt
  have ltq5 := own_n q5.lt
  have ltq6 := own_n q6.lt
  have ltq7 := own_n q7.lt
  have ltq8 := own_n q8.lt
  have ltq9 := own_n q9.lt
  have ltq10 := own_n q10.lt
  have ltq11 := own_n q11.lt
  have ltq12 := own_n q12.lt
  have ltq13 := own_n q13.lt
  have ltq14 := own_n q14.lt
  have ltq15 := own_n q15.lt
  have ltq16 := own_n q16.lt
  have ltq17 := own_n q17.lt
  obtain ⟨G_cs, G_zc, G_fm, isref_fm⟩ := id G
  have ltt := own_n q17.lt
  refine k_aloadN X0 d_prog_28_2_0 rfl rfl (pc' := 1) rfl ?_
  refine k_ifnonnullYes X0 d_prog_28_2_1 (pc' := 5) (by decide) (by decide) ?_
  refine k_aloadN X0 d_prog_28_2_5 rfl rfl (pc' := 6) rfl ?_
  refine k_getF X0 d_prog_28_2_6 (host := "") (Or.inl (w_73 hw)) Via.refl q4 (pc' := 9) rfl fun T419 X420 => ?_
  refine k_aloadN X420 d_prog_28_2_9 rfl rfl (pc' := 10) rfl ?_
  refine k_getF X420 d_prog_28_2_10 (host := "") (Or.inl (w_64 hw)) Via.refl q2 (pc' := 13) rfl fun T421 X422 => ?_
  refine k_arlen X422 d_prog_28_2_13 q12 (pc' := 14) rfl ?_
  refine k_icmpYes X422 d_prog_28_2_14 (by decide) (pc' := 51) (by decide) (by decide) ?_
  refine k_aloadN X422 d_prog_28_2_51 rfl rfl (pc' := 52) rfl ?_
  refine k_getF X422 d_prog_28_2_52 (host := "") (Or.inl (w_64 hw)) Via.refl q2 (pc' := 55) rfl fun T423 X424 => ?_
  refine k_aloadN X424 d_prog_28_2_55 rfl rfl (pc' := 56) rfl ?_
  refine k_getF X424 d_prog_28_2_56 (host := "") (Or.inl (w_73 hw)) Via.refl q4 (pc' := 59) rfl fun T425 X426 => ?_
  refine k_iloadN X426 d_prog_28_2_59 rfl (pc' := 60) rfl ?_
  have ge428 : n0 ≤ dp := by omega
  refine k_iastore X426 (w := d) 1 d_prog_28_2_60 q12 (by decide) (by decide) rfl (Nat.le_of_ble_eq_true rfl) rfl (vs' := [(.int x0), (.int d), (.int (0 : Int32)), (.int (0 : Int32)), (.int (0 : Int32)), (.int (0 : Int32)), (.int (0 : Int32)), (.int (0 : Int32)), (.int (0 : Int32)), (.int (0 : Int32)), (.int (0 : Int32)), (.int (0 : Int32)), (.int (0 : Int32)), (.int (0 : Int32)), (.int (0 : Int32)), (.int (0 : Int32))]) rfl trivial ge428 (pc' := 61) rfl fun T427 h427 L427 X427 K427 V427 => ?_
  have sz_h427 := K427.1
  have K0_h427 : Keep h0 h427 [o, sb, bv, dp, sp] := K0_h0.trans K427 (allS (Or.inl (List.mem_of_getElem? (i := 3) rfl)) all0)
  refine k_aloadN X427 d_prog_28_2_61 rfl rfl (pc' := 62) rfl ?_
  have c429 := (q3.keep K427 (ninS (own_farN hfar (i := 0) (j := 3) rfl rfl (by decide)) nin0))
  refine k_getF X427 d_prog_28_2_62 (host := "") (Or.inl (w_66 hw)) Via.refl c429 (pc' := 65) rfl fun T430 X431 => ?_
  refine k_aloadN X431 d_prog_28_2_65 rfl rfl (pc' := 66) rfl ?_
  have c432 := (q4.keep K427 (ninS (own_farN hfar (i := 0) (j := 3) rfl rfl (by decide)) nin0))
  refine k_getF X431 d_prog_28_2_66 (host := "") (Or.inl (w_73 hw)) Via.refl c432 (pc' := 69) rfl fun T433 X434 => ?_
  refine k_aloadN X434 d_prog_28_2_69 rfl rfl (pc' := 70) rfl ?_
  have c435 := (q1.keep K427 (ninS (own_farN hfar (i := 0) (j := 3) rfl rfl (by decide)) nin0))
  refine k_getF X434 d_prog_28_2_70 (host := "") (Or.inl (w_61 hw)) Via.refl c435 (pc' := 73) rfl fun T436 X437 => ?_
  have c438 := (q6.keep K427)
  have c439 := (q9.keep K427 (ninS (own_farN hfar (i := 1) (j := 3) rfl rfl (by decide)) nin0))
  refine k_callVVF X437 (y := (⟨"java/lang/StringBuilder", "length", "()I"⟩ : MethodName)) d_prog_28_2_73 (w_75 hw) (w_76 hw) (w_78 hw) (w_77 hw) (w_45 hw) (w_79 hw) (by decide) (notFace_of_selects (args := #[]) (mvT X437.hZ (w_78 hw))) c438 (argsL := []) (rest := [(.int (1 : Int32)), (.ref sp)]) (own_sbL l Z a0 hw G n0 h427 X437.old sb nv c438 c439) rfl pd_10 rfl rfl (by decide) (W := 2) (Nat.le_of_eq rfl) (by decide) (by decide) (by decide) all0 (pc' := 76) rfl ?_
  rintro _ T440 h440 L440 X440 K440 ⟨rfl, -⟩
  have sz_h440 := K440.1
  have K0_h440 : Keep h0 h440 [o, sb, bv, dp, sp] := K0_h427.trans K440 all0
  have c442 := ((q13.keep K427 (ninS (own_farN hfar (i := 4) (j := 3) rfl rfl (by decide)) nin0)).keep K440 nin0)
  have ge444 : n0 ≤ sp := by omega
  refine k_iastore X440 (w := nv) 1 d_prog_28_2_76 c442 (by decide) (by decide) rfl (Nat.le_of_ble_eq_true rfl) rfl (vs' := [(.int y0), (.int nv), (.int (0 : Int32)), (.int (0 : Int32)), (.int (0 : Int32)), (.int (0 : Int32)), (.int (0 : Int32)), (.int (0 : Int32)), (.int (0 : Int32)), (.int (0 : Int32)), (.int (0 : Int32)), (.int (0 : Int32)), (.int (0 : Int32)), (.int (0 : Int32)), (.int (0 : Int32)), (.int (0 : Int32))]) rfl trivial ge444 (pc' := 77) rfl fun T443 h443 L443 X443 K443 V443 => ?_
  have sz_h443 := K443.1
  have K0_h443 : Keep h0 h443 [o, sb, bv, dp, sp] := K0_h440.trans K443 (allS (Or.inl (List.mem_of_getElem? (i := 4) rfl)) all0)
  refine k_aloadN X443 d_prog_28_2_77 rfl rfl (pc' := 78) rfl ?_
  refine k_dup X443 d_prog_28_2_78 rfl (pc' := 79) rfl ?_
  have c445 := ((c432.keep K440 nin0).keep K443 (ninS (own_farN hfar (i := 0) (j := 4) rfl rfl (by decide)) nin0))
  refine k_getF X443 d_prog_28_2_79 (host := "") (Or.inl (w_73 hw)) Via.refl c445 (pc' := 82) rfl fun T446 X447 => ?_
  refine k_iconst X447 d_prog_28_2_82 (w := (1 : Int32)) rfl (pc' := 83) rfl ?_
  refine k_iadd X447 d_prog_28_2_83 (w := (2 : Int32)) (by decide) (pc' := 84) rfl ?_
  have c448 := (((q0.keep K427).keep K440).keep K443)
  have ge450 : n0 ≤ o := by omega
  refine k_putF X447 d_prog_28_2_84 (host := "") (Or.inl (w_73 hw)) Via.refl c445 c448 (Or.inl (w_74 hw)) (w_37 hw) (ty := .int) (by decide) rfl rfl trivial ge450 (pc' := 87) rfl fun T449 h449 L449 X449 W449 K449 => ?_
  have sz_h449 := K449.1
  have K0_h449 : Keep h0 h449 [o, sb, bv, dp, sp] := K0_h443.trans K449 (allS (Or.inl (List.mem_of_getElem? (i := 0) rfl)) all0)
  have F449 := c445.same W449
  refine k_aloadN X449 d_prog_28_2_87 rfl rfl (pc' := 88) rfl ?_
  have c451 := (((c435.keep K440 nin0).keep K443 (ninS (own_farN hfar (i := 0) (j := 4) rfl rfl (by decide)) nin0)).other W449 (Or.inr (slot_ne (Or.inr (w_62 hw)) (Or.inl (w_74 hw)) (by decide) (t := (.object "java/lang/StringBuilder")) (t' := .int) (by decide) (by decide))))
  refine k_getF X449 d_prog_28_2_88 (host := "") (Or.inl (w_61 hw)) Via.refl c451 (pc' := 91) rfl fun T452 X453 => ?_
  refine k_aloadN X453 d_prog_28_2_91 rfl rfl (pc' := 92) rfl ?_
  have c454 := (((c438.keep K440).keep K443).keep K449)
  have c455 := ((((q7.keep K427 (ninS (own_farN hfar (i := 1) (j := 3) rfl rfl (by decide)) nin0)).keep K440 nin0).keep K443 (ninS (own_farN hfar (i := 1) (j := 4) rfl rfl (by decide)) nin0)).keep K449 (ninS (own_farN hfar (i := 1) (j := 0) rfl rfl (by decide)) nin0))
  have c456 := ((((q8.keep K427 (ninS (own_farN hfar (i := 1) (j := 3) rfl rfl (by decide)) nin0)).keep K440 nin0).keep K443 (ninS (own_farN hfar (i := 1) (j := 4) rfl rfl (by decide)) nin0)).keep K449 (ninS (own_farN hfar (i := 1) (j := 0) rfl rfl (by decide)) nin0))
  have c457 := (((c439.keep K440 nin0).keep K443 (ninS (own_farN hfar (i := 1) (j := 4) rfl rfl (by decide)) nin0)).keep K449 (ninS (own_farN hfar (i := 1) (j := 0) rfl rfl (by decide)) nin0))
  have c458 := ((((q10.keep K427 (ninS (own_farN hfar (i := 1) (j := 3) rfl rfl (by decide)) nin0)).keep K440 nin0).keep K443 (ninS (own_farN hfar (i := 1) (j := 4) rfl rfl (by decide)) nin0)).keep K449 (ninS (own_farN hfar (i := 1) (j := 0) rfl rfl (by decide)) nin0))
  have c459 := ((((q11.keep K427 (ninS (own_farN hfar (i := 2) (j := 3) rfl rfl (by decide)) nin0)).keep K440 nin0).keep K443 (ninS (own_farN hfar (i := 2) (j := 4) rfl rfl (by decide)) nin0)).keep K449 (ninS (own_farN hfar (i := 2) (j := 0) rfl rfl (by decide)) nin0))
  have c460 := ((((q14.keep K427).keep K440).keep K443).keep K449)
  have c461 := ((((q15.keep K427 (ninS (own_farN hfar (i := 5) (j := 3) rfl rfl (by decide)) nin0)).keep K440 nin0).keep K443 (ninS (own_farN hfar (i := 5) (j := 4) rfl rfl (by decide)) nin0)).keep K449 (ninS (own_farN hfar (i := 5) (j := 0) rfl rfl (by decide)) nin0))
  have c462 := ((((q16.keep K427 (ninS (own_farN hfar (i := 5) (j := 3) rfl rfl (by decide)) nin0)).keep K440 nin0).keep K443 (ninS (own_farN hfar (i := 5) (j := 4) rfl rfl (by decide)) nin0)).keep K449 (ninS (own_farN hfar (i := 5) (j := 0) rfl rfl (by decide)) nin0))
  have c463 := ((((q17.keep K427 (ninS (own_farN hfar2 (i := 5) (j := 3) rfl rfl (by decide)) nin0)).keep K440 nin0).keep K443 (ninS (own_farN hfar2 (i := 5) (j := 4) rfl rfl (by decide)) nin0)).keep K449 (ninS (own_farN hfar2 (i := 5) (j := 0) rfl rfl (by decide)) nin0))
  have ge464 : n0 ≤ sb := by omega
  have ge465 : n0 ≤ bv := by omega
  refine k_callVVF X453 (y := (⟨"java/lang/StringBuilder", "append", "(Ljava/lang/String;)Ljava/lang/StringBuilder;"⟩ : MethodName)) d_prog_28_2_92 (w_87 hw) (w_88 hw) (w_90 hw) (w_89 hw) (w_45 hw) (w_91 hw) (by decide) (notFace_of_selects (args := #[]) (mvT X453.hZ (w_90 hw))) c454 (argsL := [(.ref x)]) (rest := []) (own_sbA l Z a0 hw G n0 h449 X453.old sb x bv kb nv B mb t kt cs pq hnv hBl hpc hl1 (own_farO hfar (i := 2) (j := 5) rfl rfl (by decide)) (own_farO hfar2 (i := 2) (j := 5) rfl rfl (by decide)) (own_farO hfar (i := 2) (j := 1) rfl rfl (by decide)) (own_farO hfar (i := 1) (j := 5) rfl rfl (by decide)) (own_farO hfar2 (i := 1) (j := 5) rfl rfl (by decide)) ge464 ge465 c454 c455 c456 c457 c458 c459 c460 c461 c462 c463) rfl pd_17 rfl rfl (by decide) (W := 0) (Nat.le_of_eq rfl) (by decide) (by decide) (by decide) (allS ⟨trivial, ge464⟩ (allS ⟨trivial, ge465⟩ all0)) (pc' := 95) rfl ?_
  rintro _ T466 h466 L466 X466 K466 ⟨rfl, q466_0, q466_1, q466_2, q466_3, q466_4, q466_5⟩
  have sz_h466 := K466.1
  have K0_h466 : Keep h0 h466 [o, sb, bv, dp, sp] := K0_h449.trans K466 (allS (Or.inl (List.mem_of_getElem? (i := 1) rfl)) (allS (Or.inl (List.mem_of_getElem? (i := 2) rfl)) all0))
  have lt466_0 := own_n q466_0.lt
  have lt466_1 := own_n q466_1.lt
  have lt466_2 := own_n q466_2.lt
  have lt466_3 := own_n q466_3.lt
  have lt466_4 := own_n q466_4.lt
  have lt466_5 := own_n q466_5.lt
  refine k_pop X466 d_prog_28_2_95 rfl (pc' := 96) rfl ?_
  refine k_aloadN X466 d_prog_28_2_96 rfl rfl (pc' := 97) rfl ?_
  refine k_aloadN X466 d_prog_28_2_97 rfl rfl (pc' := 98) rfl ?_
  have c468 := (((((q5.keep K427 (ninS (own_farN hfar (i := 0) (j := 3) rfl rfl (by decide)) nin0)).keep K440 nin0).keep K443 (ninS (own_farN hfar (i := 0) (j := 4) rfl rfl (by decide)) nin0)).other W449 (Or.inr (slot_ne (Or.inl (w_132 hw)) (Or.inl (w_74 hw)) (by decide) (t := (.object "java/lang/String")) (t' := .int) (by decide) (by decide)))).keep K466 (ninS (own_farN hfar (i := 0) (j := 1) rfl rfl (by decide)) (ninS (own_farN hfar (i := 0) (j := 2) rfl rfl (by decide)) nin0)))
  have c469 := ((c448.keep K449).keep K466)
  refine k_putF X466 d_prog_28_2_98 (host := "") (Or.inl (w_131 hw)) Via.refl c468 c469 (Or.inl (w_132 hw)) (w_37 hw) (ty := (.object "java/lang/String")) (by decide) rfl rfl trivial ge450 (pc' := 101) rfl fun T470 h470 L470 X470 W470 K470 => ?_
  have sz_h470 := K470.1
  have K0_h470 : Keep h0 h470 [o, sb, bv, dp, sp] := K0_h466.trans K470 (allS (Or.inl (List.mem_of_getElem? (i := 0) rfl)) all0)
  have F470 := c468.same W470
  have c471 := (c469.keep K470)
  have c472 := ((c451.keep K466 (ninS (own_farN hfar (i := 0) (j := 1) rfl rfl (by decide)) (ninS (own_farN hfar (i := 0) (j := 2) rfl rfl (by decide)) nin0))).other W470 (Or.inr (slot_ne (Or.inr (w_62 hw)) (Or.inl (w_132 hw)) (by decide) (t := (.object "java/lang/StringBuilder")) (t' := (.object "java/lang/String")) (by decide) (by decide))))
  have c473 := ((((((q2.keep K427 (ninS (own_farN hfar (i := 0) (j := 3) rfl rfl (by decide)) nin0)).keep K440 nin0).keep K443 (ninS (own_farN hfar (i := 0) (j := 4) rfl rfl (by decide)) nin0)).other W449 (Or.inr (slot_ne (Or.inl (w_65 hw)) (Or.inl (w_74 hw)) (by decide) (t := (.array .int)) (t' := .int) (by decide) (by decide)))).keep K466 (ninS (own_farN hfar (i := 0) (j := 1) rfl rfl (by decide)) (ninS (own_farN hfar (i := 0) (j := 2) rfl rfl (by decide)) nin0))).other W470 (Or.inr (slot_ne (Or.inl (w_65 hw)) (Or.inl (w_132 hw)) (by decide) (t := (.array .int)) (t' := (.object "java/lang/String")) (by decide) (by decide))))
  have c474 := (((((c429.keep K440 nin0).keep K443 (ninS (own_farN hfar (i := 0) (j := 4) rfl rfl (by decide)) nin0)).other W449 (Or.inr (slot_ne (Or.inl (w_67 hw)) (Or.inl (w_74 hw)) (by decide) (t := (.array .int)) (t' := .int) (by decide) (by decide)))).keep K466 (ninS (own_farN hfar (i := 0) (j := 1) rfl rfl (by decide)) (ninS (own_farN hfar (i := 0) (j := 2) rfl rfl (by decide)) nin0))).other W470 (Or.inr (slot_ne (Or.inl (w_67 hw)) (Or.inl (w_132 hw)) (by decide) (t := (.array .int)) (t' := (.object "java/lang/String")) (by decide) (by decide))))
  have c475 := ((F449.keep K466 (ninS (own_farN hfar (i := 0) (j := 1) rfl rfl (by decide)) (ninS (own_farN hfar (i := 0) (j := 2) rfl rfl (by decide)) nin0))).other W470 (Or.inr (slot_ne (Or.inl (w_74 hw)) (Or.inl (w_132 hw)) (by decide) (t := .int) (t' := (.object "java/lang/String")) (by decide) (by decide))))
  have c476 := (q466_0.keep K470)
  have c477 := (q466_1.keep K470 (ninS (own_farN hfar (i := 1) (j := 0) rfl rfl (by decide)) nin0))
  have c478 := (q466_2.keep K470 (ninS (own_farN hfar (i := 1) (j := 0) rfl rfl (by decide)) nin0))
  have c479 := (q466_3.keep K470 (ninS (own_farN hfar (i := 1) (j := 0) rfl rfl (by decide)) nin0))
  have c480 := (q466_4.keep K470 (ninS (own_farN hfar (i := 1) (j := 0) rfl rfl (by decide)) nin0))
  have c481 := (q466_5.keep K470 (ninS (own_farN hfar (i := 2) (j := 0) rfl rfl (by decide)) nin0))
  have c482 := (((((V427.keep K440 nin0).keep K443 (ninS (own_farN hfar (i := 3) (j := 4) rfl rfl (by decide)) nin0)).keep K449 (ninS (own_farN hfar (i := 3) (j := 0) rfl rfl (by decide)) nin0)).keep K466 (ninS (own_farN hfar (i := 3) (j := 1) rfl rfl (by decide)) (ninS (own_farN hfar (i := 3) (j := 2) rfl rfl (by decide)) nin0))).keep K470 (ninS (own_farN hfar (i := 3) (j := 0) rfl rfl (by decide)) nin0))
  have c483 := (((V443.keep K449 (ninS (own_farN hfar (i := 4) (j := 0) rfl rfl (by decide)) nin0)).keep K466 (ninS (own_farN hfar (i := 4) (j := 1) rfl rfl (by decide)) (ninS (own_farN hfar (i := 4) (j := 2) rfl rfl (by decide)) nin0))).keep K470 (ninS (own_farN hfar (i := 4) (j := 0) rfl rfl (by decide)) nin0))
  exact k_retFV X470 d_prog_28_2_101 rfl K0_h470 ⟨rfl, c471, c472, c473, c474, c475, F470, c476, c477, c478, c479, c480, c481, c482, c483⟩ (by decide) (by decide)
set_option maxRecDepth 65536 in
set_option maxHeartbeats 40000000 in
theorem own_asbS (l : Launch) (Z : State) (a0 : Array Value) (hw : ∀ d ∈ tables_1, d.before a0 Z = true) {zc : Int32} {fm : Value}  (G : Gl Z zc fm) (n0 : Nat) (h0 : Heap) (O0 : Old Z n0 h0) (a : Nat) (bv : Nat) (kb : ClassId) (nv : Int32) (B : List Int32) (mb : Int32) (q : Nat) (k : Nat) (kv : Int32) (hkv : kv = Int32.ofNat k) (hnv : nv = Int32.ofNat q) (hkq : k ≤ q) (hq : q ≤ 16) (gw0 : n0 ≤ a) (q0 : Exa Z h0 a "java/lang/StringBuilder") (q1 : Fld Z h0 a "java/lang/AbstractStringBuilder" "value" "[B" (.ref bv)) (q2 : Fld Z h0 a "java/lang/AbstractStringBuilder" "coder" "B" (.int (0 : Int32))) (q3 : Fld Z h0 a "java/lang/AbstractStringBuilder" "count" "I" (.int nv)) (q4 : Fld Z h0 a "java/lang/AbstractStringBuilder" "maybeLatin1" "Z" (.int mb)) (q5 : Arv Z h0 bv kb .byte (16 : Int32) (own_lat B) (.int (0 : Int32))) :
    MetF l [] Z n0 (⟨"java/lang/AbstractStringBuilder", "setLength", "(I)V"⟩ : MethodName) jdk_68_method_13_code 2 (Option.none : Option FieldType) ({ frames := 1, cells := 0, slots := 0, locals := 14 } : Room) #[(.ref a), (.int kv)] h0 [a] (fun r h' => r = none ∧ ∃ (mc : Int32), (Exa Z h' a "java/lang/StringBuilder") ∧ (Fld Z h' a "java/lang/AbstractStringBuilder" "value" "[B" (.ref bv)) ∧ (Fld Z h' a "java/lang/AbstractStringBuilder" "coder" "B" (.int (0 : Int32))) ∧ (Fld Z h' a "java/lang/AbstractStringBuilder" "count" "I" (.int kv)) ∧ (Fld Z h' a "java/lang/AbstractStringBuilder" "maybeLatin1" "Z" (.int mc))) := by
  refine metF (plainFor_of_name pn_6) O0 (Ls := #[.val (.ref a), .val (.int kv)]) (fun m => by first | (simp [entryFrame, mkF, argsToLocals, Value.category]; done) | rfl) ?_
  intro p e s m below meth c T0 X0
  have K0_h0 := Keep.refl h0 [a]
  have n0le := X0.n0le
  have ltq0 := own_n q0.lt
  have ltq1 := own_n q1.lt
  have ltq2 := own_n q2.lt
  have ltq3 := own_n q3.lt
  have ltq4 := own_n q4.lt
  have ltq5 := own_n q5.lt
  obtain ⟨G_cs, G_zc, G_fm, isref_fm⟩ := id G
  refine k_iloadN X0 d_jdk_68_13_0 rfl (pc' := 1) rfl ?_
  refine k_ifYes X0 d_jdk_68_13_1 ((if0 _ _).trans (flt (by rw [hkv]; exact own_nn (by omega))).2.1) (pc' := 13) (by decide) (by decide) ?_
  refine k_aloadN X0 d_jdk_68_13_13 rfl rfl (pc' := 14) rfl ?_
  refine k_iloadN X0 d_jdk_68_13_14 rfl (pc' := 15) rfl ?_
  refine k_callQNF X0 (y := (⟨"java/lang/AbstractStringBuilder", "ensureCapacityInternal", "(I)V"⟩ : MethodName)) d_jdk_68_13_15 (w_106 hw) (w_107 hw) (w_109 hw) (w_108 hw) (w_53 hw) (w_110 hw) (by decide) q0 (argsL := [(.int kv)]) (rest := []) (own_ens l Z a0 hw G n0 h0 X0.old a k kv bv kb (own_lat B) (.int (0 : Int32)) hkv (by omega) q1 q2 q5) rfl pd_9 rfl rfl (by decide) (W := 0) (Nat.le_of_eq rfl) (by decide) (by decide) (by decide) all0 (pc' := 18) rfl ?_
  rintro T484 h484 L484 X484 K484 -
  have sz_h484 := K484.1
  have K0_h484 : Keep h0 h484 [a] := K0_h0.trans K484 all0
  refine k_aloadN X484 d_jdk_68_13_18 rfl rfl (pc' := 19) rfl ?_
  have c485 := (q3.keep K484 nin0)
  refine k_getF X484 d_jdk_68_13_19 (host := "") (Or.inl (w_85 hw)) Via.refl c485 (pc' := 22) rfl fun T486 X487 => ?_
  refine k_iloadN X487 d_jdk_68_13_22 rfl (pc' := 23) rfl ?_
  refine k_icmpYes X487 d_jdk_68_13_23 (flt (by rw [hkv, hnv]; exact own_nlt hkq (by omega))).2.1 (pc' := 63) (by decide) (by decide) ?_
  refine k_aloadN X487 d_jdk_68_13_63 rfl rfl (pc' := 64) rfl ?_
  refine k_getF X487 d_jdk_68_13_64 (host := "") (Or.inl (w_85 hw)) Via.refl c485 (pc' := 67) rfl fun T488 X489 => ?_
  refine k_iloadN X489 d_jdk_68_13_67 rfl (pc' := 68) rfl ?_
  by_cases hc490 : kv < nv
  · refine k_icmpNo X489 d_jdk_68_13_68 (tlt hc490).2.2.2 (pc' := 71) rfl ?_
    refine k_aloadN X489 d_jdk_68_13_71 rfl rfl (pc' := 72) rfl ?_
    refine k_iconst X489 d_jdk_68_13_72 (w := (1 : Int32)) rfl (pc' := 73) rfl ?_
    have c491 := (q4.keep K484 nin0)
    have c492 := (q0.keep K484)
    have ge494 : n0 ≤ a := by omega
    refine k_putF X489 d_jdk_68_13_73 (host := "") (Or.inl (w_207 hw)) Via.refl c491 c492 (Or.inl (w_208 hw)) (w_44 hw) (ty := .boolean) (by decide) rfl rfl trivial ge494 (pc' := 76) rfl fun T493 h493 L493 X493 W493 K493 => ?_
    have sz_h493 := K493.1
    have K0_h493 : Keep h0 h493 [a] := K0_h484.trans K493 (allS (Or.inl (List.mem_of_getElem? (i := 0) rfl)) all0)
    have F493 := c491.same W493
    refine k_aloadN X493 d_jdk_68_13_76 rfl rfl (pc' := 77) rfl ?_
    refine k_iloadN X493 d_jdk_68_13_77 rfl (pc' := 78) rfl ?_
    have c495 := (c485.other W493 (Or.inr (slot_ne (Or.inl (w_86 hw)) (Or.inl (w_208 hw)) (by decide) (t := .int) (t' := .boolean) (by decide) (by decide))))
    have c496 := (c492.keep K493)
    refine k_putF X493 d_jdk_68_13_78 (host := "") (Or.inl (w_85 hw)) Via.refl c495 c496 (Or.inl (w_86 hw)) (w_44 hw) (ty := .int) (by decide) rfl rfl trivial ge494 (pc' := 81) rfl fun T497 h497 L497 X497 W497 K497 => ?_
    have sz_h497 := K497.1
    have K0_h497 : Keep h0 h497 [a] := K0_h493.trans K497 (allS (Or.inl (List.mem_of_getElem? (i := 0) rfl)) all0)
    have F497 := c495.same W497
    have c498 := (c496.keep K497)
    have c499 := (((q1.keep K484 nin0).other W493 (Or.inr (slot_ne (Or.inl (w_58 hw)) (Or.inl (w_208 hw)) (by decide) (t := (.array .byte)) (t' := .boolean) (by decide) (by decide)))).other W497 (Or.inr (slot_ne (Or.inl (w_58 hw)) (Or.inl (w_86 hw)) (by decide) (t := (.array .byte)) (t' := .int) (by decide) (by decide))))
    have c500 := (((q2.keep K484 nin0).other W493 (Or.inr (slot_ne (Or.inl (w_60 hw)) (Or.inl (w_208 hw)) (by decide) (t := .byte) (t' := .boolean) (by decide) (by decide)))).other W497 (Or.inr (slot_ne (Or.inl (w_60 hw)) (Or.inl (w_86 hw)) (by decide) (t := .byte) (t' := .int) (by decide) (by decide))))
    have c501 := (F493.other W497 (Or.inr (slot_ne (Or.inl (w_208 hw)) (Or.inl (w_86 hw)) (by decide) (t := .boolean) (t' := .int) (by decide) (by decide))))
    exact k_retFV X497 d_jdk_68_13_81 rfl K0_h497 ⟨rfl, _, c498, c499, c500, F497, c501⟩ (by decide) (by decide)
  · refine k_icmpYes X489 d_jdk_68_13_68 (flt hc490).2.2.2 (pc' := 76) (by decide) (by decide) ?_
    refine k_aloadN X489 d_jdk_68_13_76 rfl rfl (pc' := 77) rfl ?_
    refine k_iloadN X489 d_jdk_68_13_77 rfl (pc' := 78) rfl ?_
    have c502 := (q0.keep K484)
    have ge504 : n0 ≤ a := by omega
    refine k_putF X489 d_jdk_68_13_78 (host := "") (Or.inl (w_85 hw)) Via.refl c485 c502 (Or.inl (w_86 hw)) (w_44 hw) (ty := .int) (by decide) rfl rfl trivial ge504 (pc' := 81) rfl fun T503 h503 L503 X503 W503 K503 => ?_
    have sz_h503 := K503.1
    have K0_h503 : Keep h0 h503 [a] := K0_h484.trans K503 (allS (Or.inl (List.mem_of_getElem? (i := 0) rfl)) all0)
    have F503 := c485.same W503
    have c505 := (c502.keep K503)
    have c506 := ((q1.keep K484 nin0).other W503 (Or.inr (slot_ne (Or.inl (w_58 hw)) (Or.inl (w_86 hw)) (by decide) (t := (.array .byte)) (t' := .int) (by decide) (by decide))))
    have c507 := ((q2.keep K484 nin0).other W503 (Or.inr (slot_ne (Or.inl (w_60 hw)) (Or.inl (w_86 hw)) (by decide) (t := .byte) (t' := .int) (by decide) (by decide))))
    have c508 := ((q4.keep K484 nin0).other W503 (Or.inr (slot_ne (Or.inl (w_208 hw)) (Or.inl (w_86 hw)) (by decide) (t := .boolean) (t' := .int) (by decide) (by decide))))
    exact k_retFV X503 d_jdk_68_13_81 rfl K0_h503 ⟨rfl, _, c505, c506, c507, F503, c508⟩ (by decide) (by decide)
set_option maxRecDepth 65536 in
set_option maxHeartbeats 40000000 in
theorem own_sbS (l : Launch) (Z : State) (a0 : Array Value) (hw : ∀ d ∈ tables_1, d.before a0 Z = true) {zc : Int32} {fm : Value}  (G : Gl Z zc fm) (n0 : Nat) (h0 : Heap) (O0 : Old Z n0 h0) (a : Nat) (bv : Nat) (kb : ClassId) (nv : Int32) (B : List Int32) (mb : Int32) (q : Nat) (k : Nat) (kv : Int32) (hkv : kv = Int32.ofNat k) (hnv : nv = Int32.ofNat q) (hkq : k ≤ q) (hq : q ≤ 16) (gw0 : n0 ≤ a) (q0 : Exa Z h0 a "java/lang/StringBuilder") (q1 : Fld Z h0 a "java/lang/AbstractStringBuilder" "value" "[B" (.ref bv)) (q2 : Fld Z h0 a "java/lang/AbstractStringBuilder" "coder" "B" (.int (0 : Int32))) (q3 : Fld Z h0 a "java/lang/AbstractStringBuilder" "count" "I" (.int nv)) (q4 : Fld Z h0 a "java/lang/AbstractStringBuilder" "maybeLatin1" "Z" (.int mb)) (q5 : Arv Z h0 bv kb .byte (16 : Int32) (own_lat B) (.int (0 : Int32))) :
    MetF l [] Z n0 (⟨"java/lang/StringBuilder", "setLength", "(I)V"⟩ : MethodName) jdk_67_method_89_code 2 (Option.none : Option FieldType) ({ frames := 2, cells := 0, slots := 0, locals := 27 } : Room) #[(.ref a), (.int kv)] h0 [a] (fun r h' => r = none ∧ ∃ (mc : Int32), (Exa Z h' a "java/lang/StringBuilder") ∧ (Fld Z h' a "java/lang/AbstractStringBuilder" "value" "[B" (.ref bv)) ∧ (Fld Z h' a "java/lang/AbstractStringBuilder" "coder" "B" (.int (0 : Int32))) ∧ (Fld Z h' a "java/lang/AbstractStringBuilder" "count" "I" (.int kv)) ∧ (Fld Z h' a "java/lang/AbstractStringBuilder" "maybeLatin1" "Z" (.int mc))) := by
  refine metF (plainFor_of_name pn_7) O0 (Ls := #[.val (.ref a), .val (.int kv)]) (fun m => by first | (simp [entryFrame, mkF, argsToLocals, Value.category]; done) | rfl) ?_
  intro p e s m below meth c T0 X0
  have K0_h0 := Keep.refl h0 [a]
  have n0le := X0.n0le
  have ltq0 := own_n q0.lt
  have ltq1 := own_n q1.lt
  have ltq2 := own_n q2.lt
  have ltq3 := own_n q3.lt
  have ltq4 := own_n q4.lt
  have ltq5 := own_n q5.lt
  obtain ⟨G_cs, G_zc, G_fm, isref_fm⟩ := id G
  refine k_aloadN X0 d_jdk_67_89_0 rfl rfl (pc' := 1) rfl ?_
  refine k_iloadN X0 d_jdk_67_89_1 rfl (pc' := 2) rfl ?_
  have ge509 : n0 ≤ a := by omega
  refine k_callUNF X0 (y := (⟨"java/lang/AbstractStringBuilder", "setLength", "(I)V"⟩ : MethodName)) d_jdk_67_89_2 (w_167 hw) (w_168 hw) (w_109 hw) rfl (w_82 hw) (w_53 hw) (w_170 hw) (by decide) (by decide) (Ins.self q0) (argsL := [(.int kv)]) (rest := []) (own_asbS l Z a0 hw G n0 h0 X0.old a bv kb nv B mb q k kv hkv hnv hkq hq ge509 q0 q1 q2 q3 q4 q5) rfl pd_9 rfl rfl (by decide) (W := 0) (Nat.le_of_eq rfl) (by decide) (by decide) (by decide) (allS ⟨trivial, ge509⟩ all0) (pc' := 5) rfl ?_
  rintro T511 h511 L511 X511 K511 ⟨mc_510, q511_0, q511_1, q511_2, q511_3, q511_4⟩
  have sz_h511 := K511.1
  have K0_h511 : Keep h0 h511 [a] := K0_h0.trans K511 (allS (Or.inl (List.mem_of_getElem? (i := 0) rfl)) all0)
  have lt511_0 := own_n q511_0.lt
  have lt511_1 := own_n q511_1.lt
  have lt511_2 := own_n q511_2.lt
  have lt511_3 := own_n q511_3.lt
  have lt511_4 := own_n q511_4.lt
  exact k_retFV X511 d_jdk_67_89_5 rfl K0_h511 ⟨rfl, _, q511_0, q511_1, q511_2, q511_3, q511_4⟩ (by decide) (by decide)
set_option maxRecDepth 65536 in
set_option maxHeartbeats 40000000 in
theorem own_enNo1 (l : Launch) (Z : State) (a0 : Array Value) (hw : ∀ d ∈ tables_1, d.before a0 Z = true) {zc : Int32} {fm : Value}  (G : Gl Z zc fm) (n0 : Nat) (h0 : Heap) (O0 : Old Z n0 h0) (o : Nat) (dp : Nat) (kd : ClassId) (d : Int32) (x0 : Int32) (x1 : Int32) (hno : ¬ x0 = d)  (q0 : Fld Z h0 o "com/example/colophon/colophon/OpenIds" "count" "I" (.int (1 : Int32))) (q1 : Fld Z h0 o "com/example/colophon/colophon/OpenIds" "depths" "[I" (.ref dp)) (q2 : Arv Z h0 dp kd .int (16 : Int32) [(.int x0), (.int x1), (.int (0 : Int32)), (.int (0 : Int32)), (.int (0 : Int32)), (.int (0 : Int32)), (.int (0 : Int32)), (.int (0 : Int32)), (.int (0 : Int32)), (.int (0 : Int32)), (.int (0 : Int32)), (.int (0 : Int32)), (.int (0 : Int32)), (.int (0 : Int32)), (.int (0 : Int32)), (.int (0 : Int32))] (.int (0 : Int32))) :
    MetF l [] Z n0 (⟨"com/example/colophon/colophon/OpenIds", "endElement", "(I)V"⟩ : MethodName) prog_28_method_3_code 2 (Option.none : Option FieldType) ({ frames := 0, cells := 0, slots := 0, locals := 0 } : Room) #[(.ref o), (.int d)] h0 [] (fun r h' => r = none ∧ True) := by
  refine metF (plainFor_of_name pn_9) O0 (Ls := #[.val (.ref o), .val (.int d)]) (fun m => by first | (simp [entryFrame, mkF, argsToLocals, Value.category]; done) | rfl) ?_
  intro p e s m below meth c T0 X0
  have K0_h0 := Keep.refl h0 []
  have n0le := X0.n0le
  have ltq0 := own_n q0.lt
  have ltq1 := own_n q1.lt
  have ltq2 := own_n q2.lt
  obtain ⟨G_cs, G_zc, G_fm, isref_fm⟩ := id G
  refine k_aloadN X0 d_prog_28_3_0 rfl rfl (pc' := 1) rfl ?_
  refine k_getF X0 d_prog_28_3_1 (host := "") (Or.inl (w_73 hw)) Via.refl q0 (pc' := 4) rfl fun T512 X513 => ?_
  refine k_ifNo X513 d_prog_28_3_4 (by decide) (pc' := 7) rfl ?_
  refine k_aloadN X513 d_prog_28_3_7 rfl rfl (pc' := 8) rfl ?_
  refine k_getF X513 d_prog_28_3_8 (host := "") (Or.inl (w_64 hw)) Via.refl q1 (pc' := 11) rfl fun T514 X515 => ?_
  refine k_aloadN X515 d_prog_28_3_11 rfl rfl (pc' := 12) rfl ?_
  refine k_getF X515 d_prog_28_3_12 (host := "") (Or.inl (w_73 hw)) Via.refl q0 (pc' := 15) rfl fun T516 X517 => ?_
  refine k_iconst X517 d_prog_28_3_15 (w := (1 : Int32)) rfl (pc' := 16) rfl ?_
  refine k_isub X517 d_prog_28_3_16 (w := (0 : Int32)) (by decide) (pc' := 17) rfl ?_
  refine k_iaload X517 d_prog_28_3_17 q2 (by decide) (by decide) (v := (.int x0)) rfl (pc' := 18) rfl ?_
  refine k_iloadN X517 d_prog_28_3_18 rfl (pc' := 19) rfl ?_
  refine k_icmpYes X517 d_prog_28_3_19 (feq hno).2 (pc' := 53) (by decide) (by decide) ?_
  exact k_retFV X517 d_prog_28_3_53 rfl K0_h0 ⟨rfl, trivial⟩ (by decide) (by decide)
set_option maxRecDepth 65536 in
set_option maxHeartbeats 40000000 in
theorem own_enYes1 (l : Launch) (Z : State) (a0 : Array Value) (hw : ∀ d ∈ tables_1, d.before a0 Z = true) {zc : Int32} {fm : Value}  (G : Gl Z zc fm) (n0 : Nat) (h0 : Heap) (O0 : Old Z n0 h0) (o : Nat) (sb : Nat) (dp : Nat) (sp : Nat) (kd : ClassId) (ks : ClassId) (bv : Nat) (kb : ClassId) (nv : Int32) (B : List Int32) (mb : Int32) (d : Int32) (z : Nat) (x0 : Int32) (x1 : Int32) (y0 : Int32) (y1 : Int32) (q : Nat) (k : Nat) (hyes : x0 = d) (hkv : y0 = Int32.ofNat k) (hnv : nv = Int32.ofNat q) (hkq : k ≤ q) (hq : q ≤ 16) (hfar : own_far [o, sb, bv, dp, sp]) (gw0 : n0 ≤ o) (gw1 : n0 ≤ sb) (q0 : Exa Z h0 o "com/example/colophon/colophon/OpenIds") (q1 : Fld Z h0 o "com/example/colophon/colophon/OpenIds" "characters" "Ljava/lang/StringBuilder;" (.ref sb)) (q2 : Fld Z h0 o "com/example/colophon/colophon/OpenIds" "depths" "[I" (.ref dp)) (q3 : Fld Z h0 o "com/example/colophon/colophon/OpenIds" "starts" "[I" (.ref sp)) (q4 : Fld Z h0 o "com/example/colophon/colophon/OpenIds" "count" "I" (.int (1 : Int32))) (q5 : Fld Z h0 o "com/example/colophon/colophon/OpenIds" "innermost" "Ljava/lang/String;" (.ref z)) (q6 : Exa Z h0 sb "java/lang/StringBuilder") (q7 : Fld Z h0 sb "java/lang/AbstractStringBuilder" "value" "[B" (.ref bv)) (q8 : Fld Z h0 sb "java/lang/AbstractStringBuilder" "coder" "B" (.int (0 : Int32))) (q9 : Fld Z h0 sb "java/lang/AbstractStringBuilder" "count" "I" (.int nv)) (q10 : Fld Z h0 sb "java/lang/AbstractStringBuilder" "maybeLatin1" "Z" (.int mb)) (q11 : Arv Z h0 bv kb .byte (16 : Int32) (own_lat B) (.int (0 : Int32))) (q12 : Arv Z h0 dp kd .int (16 : Int32) [(.int x0), (.int x1), (.int (0 : Int32)), (.int (0 : Int32)), (.int (0 : Int32)), (.int (0 : Int32)), (.int (0 : Int32)), (.int (0 : Int32)), (.int (0 : Int32)), (.int (0 : Int32)), (.int (0 : Int32)), (.int (0 : Int32)), (.int (0 : Int32)), (.int (0 : Int32)), (.int (0 : Int32)), (.int (0 : Int32))] (.int (0 : Int32))) (q13 : Arv Z h0 sp ks .int (16 : Int32) [(.int y0), (.int y1), (.int (0 : Int32)), (.int (0 : Int32)), (.int (0 : Int32)), (.int (0 : Int32)), (.int (0 : Int32)), (.int (0 : Int32)), (.int (0 : Int32)), (.int (0 : Int32)), (.int (0 : Int32)), (.int (0 : Int32)), (.int (0 : Int32)), (.int (0 : Int32)), (.int (0 : Int32)), (.int (0 : Int32))] (.int (0 : Int32))) :
    MetF l [] Z n0 (⟨"com/example/colophon/colophon/OpenIds", "endElement", "(I)V"⟩ : MethodName) prog_28_method_3_code 2 (Option.none : Option FieldType) ({ frames := 3, cells := 0, slots := 0, locals := 40 } : Room) #[(.ref o), (.int d)] h0 [o, sb] (fun r h' => r = none ∧ ∃ (mc : Int32), (Exa Z h' o "com/example/colophon/colophon/OpenIds") ∧ (Fld Z h' o "com/example/colophon/colophon/OpenIds" "characters" "Ljava/lang/StringBuilder;" (.ref sb)) ∧ (Fld Z h' o "com/example/colophon/colophon/OpenIds" "depths" "[I" (.ref dp)) ∧ (Fld Z h' o "com/example/colophon/colophon/OpenIds" "starts" "[I" (.ref sp)) ∧ (Fld Z h' o "com/example/colophon/colophon/OpenIds" "count" "I" (.int (0 : Int32))) ∧ (Fld Z h' o "com/example/colophon/colophon/OpenIds" "innermost" "Ljava/lang/String;" .null) ∧ (Exa Z h' sb "java/lang/StringBuilder") ∧ (Fld Z h' sb "java/lang/AbstractStringBuilder" "value" "[B" (.ref bv)) ∧ (Fld Z h' sb "java/lang/AbstractStringBuilder" "coder" "B" (.int (0 : Int32))) ∧ (Fld Z h' sb "java/lang/AbstractStringBuilder" "count" "I" (.int y0)) ∧ (Fld Z h' sb "java/lang/AbstractStringBuilder" "maybeLatin1" "Z" (.int mc))) := by
  refine metF (plainFor_of_name pn_9) O0 (Ls := #[.val (.ref o), .val (.int d)]) (fun m => by first | (simp [entryFrame, mkF, argsToLocals, Value.category]; done) | rfl) ?_
  intro p e s m below meth c T0 X0
  have K0_h0 := Keep.refl h0 [o, sb]
  have n0le := X0.n0le
  have ltq0 := own_n q0.lt
  have ltq1 := own_n q1.lt
  have ltq2 := own_n q2.lt
  have ltq3 := own_n q3.lt
  have ltq4 := own_n q4.lt
  have ltq5 := own_n q5.lt
  have ltq6 := own_n q6.lt
  have ltq7 := own_n q7.lt
  have ltq8 := own_n q8.lt
  have ltq9 := own_n q9.lt
  have ltq10 := own_n q10.lt
  have ltq11 := own_n q11.lt
  have ltq12 := own_n q12.lt
  have ltq13 := own_n q13.lt
  obtain ⟨G_cs, G_zc, G_fm, isref_fm⟩ := id G
  refine k_aloadN X0 d_prog_28_3_0 rfl rfl (pc' := 1) rfl ?_
  refine k_getF X0 d_prog_28_3_1 (host := "") (Or.inl (w_73 hw)) Via.refl q4 (pc' := 4) rfl fun T518 X519 => ?_
  refine k_ifNo X519 d_prog_28_3_4 (by decide) (pc' := 7) rfl ?_
  refine k_aloadN X519 d_prog_28_3_7 rfl rfl (pc' := 8) rfl ?_
  refine k_getF X519 d_prog_28_3_8 (host := "") (Or.inl (w_64 hw)) Via.refl q2 (pc' := 11) rfl fun T520 X521 => ?_
  refine k_aloadN X521 d_prog_28_3_11 rfl rfl (pc' := 12) rfl ?_
  refine k_getF X521 d_prog_28_3_12 (host := "") (Or.inl (w_73 hw)) Via.refl q4 (pc' := 15) rfl fun T522 X523 => ?_
  refine k_iconst X523 d_prog_28_3_15 (w := (1 : Int32)) rfl (pc' := 16) rfl ?_
  refine k_isub X523 d_prog_28_3_16 (w := (0 : Int32)) (by decide) (pc' := 17) rfl ?_
  refine k_iaload X523 d_prog_28_3_17 q12 (by decide) (by decide) (v := (.int x0)) rfl (pc' := 18) rfl ?_
  refine k_iloadN X523 d_prog_28_3_18 rfl (pc' := 19) rfl ?_
  refine k_icmpNo X523 d_prog_28_3_19 (teq hyes).2 (pc' := 22) rfl ?_
  refine k_aloadN X523 d_prog_28_3_22 rfl rfl (pc' := 23) rfl ?_
  refine k_dup X523 d_prog_28_3_23 rfl (pc' := 24) rfl ?_
  refine k_getF X523 d_prog_28_3_24 (host := "") (Or.inl (w_73 hw)) Via.refl q4 (pc' := 27) rfl fun T524 X525 => ?_
  refine k_iconst X525 d_prog_28_3_27 (w := (1 : Int32)) rfl (pc' := 28) rfl ?_
  refine k_isub X525 d_prog_28_3_28 (w := (0 : Int32)) (by decide) (pc' := 29) rfl ?_
  have ge527 : n0 ≤ o := by omega
  refine k_putF X525 d_prog_28_3_29 (host := "") (Or.inl (w_73 hw)) Via.refl q4 q0 (Or.inl (w_74 hw)) (w_37 hw) (ty := .int) (by decide) rfl rfl trivial ge527 (pc' := 32) rfl fun T526 h526 L526 X526 W526 K526 => ?_
  have sz_h526 := K526.1
  have K0_h526 : Keep h0 h526 [o, sb] := K0_h0.trans K526 (allS (Or.inl (List.mem_of_getElem? (i := 0) rfl)) all0)
  have F526 := q4.same W526
  refine k_aloadN X526 d_prog_28_3_32 rfl rfl (pc' := 33) rfl ?_
  have c528 := (q1.other W526 (Or.inr (slot_ne (Or.inr (w_62 hw)) (Or.inl (w_74 hw)) (by decide) (t := (.object "java/lang/StringBuilder")) (t' := .int) (by decide) (by decide))))
  refine k_getF X526 d_prog_28_3_33 (host := "") (Or.inl (w_61 hw)) Via.refl c528 (pc' := 36) rfl fun T529 X530 => ?_
  refine k_aloadN X530 d_prog_28_3_36 rfl rfl (pc' := 37) rfl ?_
  have c531 := (q3.other W526 (Or.inr (slot_ne (Or.inl (w_67 hw)) (Or.inl (w_74 hw)) (by decide) (t := (.array .int)) (t' := .int) (by decide) (by decide))))
  refine k_getF X530 d_prog_28_3_37 (host := "") (Or.inl (w_66 hw)) Via.refl c531 (pc' := 40) rfl fun T532 X533 => ?_
  refine k_aloadN X533 d_prog_28_3_40 rfl rfl (pc' := 41) rfl ?_
  refine k_getF X533 d_prog_28_3_41 (host := "") (Or.inl (w_73 hw)) Via.refl F526 (pc' := 44) rfl fun T534 X535 => ?_
  have c536 := (q13.keep K526 (ninS (own_farN hfar (i := 4) (j := 0) rfl rfl (by decide)) nin0))
  refine k_iaload X535 d_prog_28_3_44 c536 (by decide) (by decide) (v := (.int y0)) rfl (pc' := 45) rfl ?_
  have c537 := (q6.keep K526)
  have c538 := (q7.keep K526 (ninS (own_farN hfar (i := 1) (j := 0) rfl rfl (by decide)) nin0))
  have c539 := (q8.keep K526 (ninS (own_farN hfar (i := 1) (j := 0) rfl rfl (by decide)) nin0))
  have c540 := (q9.keep K526 (ninS (own_farN hfar (i := 1) (j := 0) rfl rfl (by decide)) nin0))
  have c541 := (q10.keep K526 (ninS (own_farN hfar (i := 1) (j := 0) rfl rfl (by decide)) nin0))
  have c542 := (q11.keep K526 (ninS (own_farN hfar (i := 2) (j := 0) rfl rfl (by decide)) nin0))
  have ge543 : n0 ≤ sb := by omega
  refine k_callVNF X535 (y := (⟨"java/lang/StringBuilder", "setLength", "(I)V"⟩ : MethodName)) d_prog_28_3_45 (w_162 hw) (w_163 hw) (w_165 hw) (w_164 hw) (w_45 hw) (w_166 hw) (by decide) (notFace_of_selects (args := #[]) (mvT X535.hZ (w_165 hw))) c537 (argsL := [(.int y0)]) (rest := []) (own_sbS l Z a0 hw G n0 h526 X535.old sb bv kb nv B mb q k y0 hkv hnv hkq hq ge543 c537 c538 c539 c540 c541 c542) rfl pd_9 rfl rfl (by decide) (W := 0) (Nat.le_of_eq rfl) (by decide) (by decide) (by decide) (allS ⟨trivial, ge543⟩ all0) (pc' := 48) rfl ?_
  rintro T545 h545 L545 X545 K545 ⟨mc_544, q545_0, q545_1, q545_2, q545_3, q545_4⟩
  have sz_h545 := K545.1
  have K0_h545 : Keep h0 h545 [o, sb] := K0_h526.trans K545 (allS (Or.inl (List.mem_of_getElem? (i := 1) rfl)) all0)
  have lt545_0 := own_n q545_0.lt
  have lt545_1 := own_n q545_1.lt
  have lt545_2 := own_n q545_2.lt
  have lt545_3 := own_n q545_3.lt
  have lt545_4 := own_n q545_4.lt
  refine k_aloadN X545 d_prog_28_3_48 rfl rfl (pc' := 49) rfl ?_
  refine k_aconstNull X545 d_prog_28_3_49 (pc' := 50) rfl ?_
  have c546 := ((q5.other W526 (Or.inr (slot_ne (Or.inl (w_132 hw)) (Or.inl (w_74 hw)) (by decide) (t := (.object "java/lang/String")) (t' := .int) (by decide) (by decide)))).keep K545 (ninS (own_farN hfar (i := 0) (j := 1) rfl rfl (by decide)) nin0))
  have c547 := ((q0.keep K526).keep K545)
  refine k_putF X545 d_prog_28_3_50 (host := "") (Or.inl (w_131 hw)) Via.refl c546 c547 (Or.inl (w_132 hw)) (w_37 hw) (ty := (.object "java/lang/String")) (by decide) rfl rfl trivial ge527 (pc' := 53) rfl fun T548 h548 L548 X548 W548 K548 => ?_
  have sz_h548 := K548.1
  have K0_h548 : Keep h0 h548 [o, sb] := K0_h545.trans K548 (allS (Or.inl (List.mem_of_getElem? (i := 0) rfl)) all0)
  have F548 := c546.same W548
  have c549 := (c547.keep K548)
  have c550 := ((c528.keep K545 (ninS (own_farN hfar (i := 0) (j := 1) rfl rfl (by decide)) nin0)).other W548 (Or.inr (slot_ne (Or.inr (w_62 hw)) (Or.inl (w_132 hw)) (by decide) (t := (.object "java/lang/StringBuilder")) (t' := (.object "java/lang/String")) (by decide) (by decide))))
  have c551 := (((q2.other W526 (Or.inr (slot_ne (Or.inl (w_65 hw)) (Or.inl (w_74 hw)) (by decide) (t := (.array .int)) (t' := .int) (by decide) (by decide)))).keep K545 (ninS (own_farN hfar (i := 0) (j := 1) rfl rfl (by decide)) nin0)).other W548 (Or.inr (slot_ne (Or.inl (w_65 hw)) (Or.inl (w_132 hw)) (by decide) (t := (.array .int)) (t' := (.object "java/lang/String")) (by decide) (by decide))))
  have c552 := ((c531.keep K545 (ninS (own_farN hfar (i := 0) (j := 1) rfl rfl (by decide)) nin0)).other W548 (Or.inr (slot_ne (Or.inl (w_67 hw)) (Or.inl (w_132 hw)) (by decide) (t := (.array .int)) (t' := (.object "java/lang/String")) (by decide) (by decide))))
  have c553 := ((F526.keep K545 (ninS (own_farN hfar (i := 0) (j := 1) rfl rfl (by decide)) nin0)).other W548 (Or.inr (slot_ne (Or.inl (w_74 hw)) (Or.inl (w_132 hw)) (by decide) (t := .int) (t' := (.object "java/lang/String")) (by decide) (by decide))))
  have c554 := (q545_0.keep K548)
  have c555 := (q545_1.keep K548 (ninS (own_farN hfar (i := 1) (j := 0) rfl rfl (by decide)) nin0))
  have c556 := (q545_2.keep K548 (ninS (own_farN hfar (i := 1) (j := 0) rfl rfl (by decide)) nin0))
  have c557 := (q545_3.keep K548 (ninS (own_farN hfar (i := 1) (j := 0) rfl rfl (by decide)) nin0))
  have c558 := (q545_4.keep K548 (ninS (own_farN hfar (i := 1) (j := 0) rfl rfl (by decide)) nin0))
  exact k_retFV X548 d_prog_28_3_53 rfl K0_h548 ⟨rfl, _, c549, c550, c551, c552, c553, F548, c554, c555, c556, c557, c558⟩ (by decide) (by decide)
set_option maxRecDepth 65536 in
set_option maxHeartbeats 40000000 in
theorem own_enNo2 (l : Launch) (Z : State) (a0 : Array Value) (hw : ∀ d ∈ tables_1, d.before a0 Z = true) {zc : Int32} {fm : Value}  (G : Gl Z zc fm) (n0 : Nat) (h0 : Heap) (O0 : Old Z n0 h0) (o : Nat) (dp : Nat) (kd : ClassId) (d : Int32) (x0 : Int32) (x1 : Int32) (hno : ¬ x1 = d)  (q0 : Fld Z h0 o "com/example/colophon/colophon/OpenIds" "count" "I" (.int (2 : Int32))) (q1 : Fld Z h0 o "com/example/colophon/colophon/OpenIds" "depths" "[I" (.ref dp)) (q2 : Arv Z h0 dp kd .int (16 : Int32) [(.int x0), (.int x1), (.int (0 : Int32)), (.int (0 : Int32)), (.int (0 : Int32)), (.int (0 : Int32)), (.int (0 : Int32)), (.int (0 : Int32)), (.int (0 : Int32)), (.int (0 : Int32)), (.int (0 : Int32)), (.int (0 : Int32)), (.int (0 : Int32)), (.int (0 : Int32)), (.int (0 : Int32)), (.int (0 : Int32))] (.int (0 : Int32))) :
    MetF l [] Z n0 (⟨"com/example/colophon/colophon/OpenIds", "endElement", "(I)V"⟩ : MethodName) prog_28_method_3_code 2 (Option.none : Option FieldType) ({ frames := 0, cells := 0, slots := 0, locals := 0 } : Room) #[(.ref o), (.int d)] h0 [] (fun r h' => r = none ∧ True) := by
  refine metF (plainFor_of_name pn_9) O0 (Ls := #[.val (.ref o), .val (.int d)]) (fun m => by first | (simp [entryFrame, mkF, argsToLocals, Value.category]; done) | rfl) ?_
  intro p e s m below meth c T0 X0
  have K0_h0 := Keep.refl h0 []
  have n0le := X0.n0le
  have ltq0 := own_n q0.lt
  have ltq1 := own_n q1.lt
  have ltq2 := own_n q2.lt
  obtain ⟨G_cs, G_zc, G_fm, isref_fm⟩ := id G
  refine k_aloadN X0 d_prog_28_3_0 rfl rfl (pc' := 1) rfl ?_
  refine k_getF X0 d_prog_28_3_1 (host := "") (Or.inl (w_73 hw)) Via.refl q0 (pc' := 4) rfl fun T559 X560 => ?_
  refine k_ifNo X560 d_prog_28_3_4 (by decide) (pc' := 7) rfl ?_
  refine k_aloadN X560 d_prog_28_3_7 rfl rfl (pc' := 8) rfl ?_
  refine k_getF X560 d_prog_28_3_8 (host := "") (Or.inl (w_64 hw)) Via.refl q1 (pc' := 11) rfl fun T561 X562 => ?_
  refine k_aloadN X562 d_prog_28_3_11 rfl rfl (pc' := 12) rfl ?_
  refine k_getF X562 d_prog_28_3_12 (host := "") (Or.inl (w_73 hw)) Via.refl q0 (pc' := 15) rfl fun T563 X564 => ?_
  refine k_iconst X564 d_prog_28_3_15 (w := (1 : Int32)) rfl (pc' := 16) rfl ?_
  refine k_isub X564 d_prog_28_3_16 (w := (1 : Int32)) (by decide) (pc' := 17) rfl ?_
  refine k_iaload X564 d_prog_28_3_17 q2 (by decide) (by decide) (v := (.int x1)) rfl (pc' := 18) rfl ?_
  refine k_iloadN X564 d_prog_28_3_18 rfl (pc' := 19) rfl ?_
  refine k_icmpYes X564 d_prog_28_3_19 (feq hno).2 (pc' := 53) (by decide) (by decide) ?_
  exact k_retFV X564 d_prog_28_3_53 rfl K0_h0 ⟨rfl, trivial⟩ (by decide) (by decide)
set_option maxRecDepth 65536 in
set_option maxHeartbeats 40000000 in
theorem own_enYes2 (l : Launch) (Z : State) (a0 : Array Value) (hw : ∀ d ∈ tables_1, d.before a0 Z = true) {zc : Int32} {fm : Value}  (G : Gl Z zc fm) (n0 : Nat) (h0 : Heap) (O0 : Old Z n0 h0) (o : Nat) (sb : Nat) (dp : Nat) (sp : Nat) (kd : ClassId) (ks : ClassId) (bv : Nat) (kb : ClassId) (nv : Int32) (B : List Int32) (mb : Int32) (d : Int32) (z : Nat) (x0 : Int32) (x1 : Int32) (y0 : Int32) (y1 : Int32) (q : Nat) (k : Nat) (hyes : x1 = d) (hkv : y1 = Int32.ofNat k) (hnv : nv = Int32.ofNat q) (hkq : k ≤ q) (hq : q ≤ 16) (hfar : own_far [o, sb, bv, dp, sp]) (gw0 : n0 ≤ o) (gw1 : n0 ≤ sb) (q0 : Exa Z h0 o "com/example/colophon/colophon/OpenIds") (q1 : Fld Z h0 o "com/example/colophon/colophon/OpenIds" "characters" "Ljava/lang/StringBuilder;" (.ref sb)) (q2 : Fld Z h0 o "com/example/colophon/colophon/OpenIds" "depths" "[I" (.ref dp)) (q3 : Fld Z h0 o "com/example/colophon/colophon/OpenIds" "starts" "[I" (.ref sp)) (q4 : Fld Z h0 o "com/example/colophon/colophon/OpenIds" "count" "I" (.int (2 : Int32))) (q5 : Fld Z h0 o "com/example/colophon/colophon/OpenIds" "innermost" "Ljava/lang/String;" (.ref z)) (q6 : Exa Z h0 sb "java/lang/StringBuilder") (q7 : Fld Z h0 sb "java/lang/AbstractStringBuilder" "value" "[B" (.ref bv)) (q8 : Fld Z h0 sb "java/lang/AbstractStringBuilder" "coder" "B" (.int (0 : Int32))) (q9 : Fld Z h0 sb "java/lang/AbstractStringBuilder" "count" "I" (.int nv)) (q10 : Fld Z h0 sb "java/lang/AbstractStringBuilder" "maybeLatin1" "Z" (.int mb)) (q11 : Arv Z h0 bv kb .byte (16 : Int32) (own_lat B) (.int (0 : Int32))) (q12 : Arv Z h0 dp kd .int (16 : Int32) [(.int x0), (.int x1), (.int (0 : Int32)), (.int (0 : Int32)), (.int (0 : Int32)), (.int (0 : Int32)), (.int (0 : Int32)), (.int (0 : Int32)), (.int (0 : Int32)), (.int (0 : Int32)), (.int (0 : Int32)), (.int (0 : Int32)), (.int (0 : Int32)), (.int (0 : Int32)), (.int (0 : Int32)), (.int (0 : Int32))] (.int (0 : Int32))) (q13 : Arv Z h0 sp ks .int (16 : Int32) [(.int y0), (.int y1), (.int (0 : Int32)), (.int (0 : Int32)), (.int (0 : Int32)), (.int (0 : Int32)), (.int (0 : Int32)), (.int (0 : Int32)), (.int (0 : Int32)), (.int (0 : Int32)), (.int (0 : Int32)), (.int (0 : Int32)), (.int (0 : Int32)), (.int (0 : Int32)), (.int (0 : Int32)), (.int (0 : Int32))] (.int (0 : Int32))) :
    MetF l [] Z n0 (⟨"com/example/colophon/colophon/OpenIds", "endElement", "(I)V"⟩ : MethodName) prog_28_method_3_code 2 (Option.none : Option FieldType) ({ frames := 3, cells := 0, slots := 0, locals := 40 } : Room) #[(.ref o), (.int d)] h0 [o, sb] (fun r h' => r = none ∧ ∃ (mc : Int32), (Exa Z h' o "com/example/colophon/colophon/OpenIds") ∧ (Fld Z h' o "com/example/colophon/colophon/OpenIds" "characters" "Ljava/lang/StringBuilder;" (.ref sb)) ∧ (Fld Z h' o "com/example/colophon/colophon/OpenIds" "depths" "[I" (.ref dp)) ∧ (Fld Z h' o "com/example/colophon/colophon/OpenIds" "starts" "[I" (.ref sp)) ∧ (Fld Z h' o "com/example/colophon/colophon/OpenIds" "count" "I" (.int (1 : Int32))) ∧ (Fld Z h' o "com/example/colophon/colophon/OpenIds" "innermost" "Ljava/lang/String;" .null) ∧ (Exa Z h' sb "java/lang/StringBuilder") ∧ (Fld Z h' sb "java/lang/AbstractStringBuilder" "value" "[B" (.ref bv)) ∧ (Fld Z h' sb "java/lang/AbstractStringBuilder" "coder" "B" (.int (0 : Int32))) ∧ (Fld Z h' sb "java/lang/AbstractStringBuilder" "count" "I" (.int y1)) ∧ (Fld Z h' sb "java/lang/AbstractStringBuilder" "maybeLatin1" "Z" (.int mc))) := by
  refine metF (plainFor_of_name pn_9) O0 (Ls := #[.val (.ref o), .val (.int d)]) (fun m => by first | (simp [entryFrame, mkF, argsToLocals, Value.category]; done) | rfl) ?_
  intro p e s m below meth c T0 X0
  have K0_h0 := Keep.refl h0 [o, sb]
  have n0le := X0.n0le
  have ltq0 := own_n q0.lt
  have ltq1 := own_n q1.lt
  have ltq2 := own_n q2.lt
  have ltq3 := own_n q3.lt
  have ltq4 := own_n q4.lt
  have ltq5 := own_n q5.lt
  have ltq6 := own_n q6.lt
  have ltq7 := own_n q7.lt
  have ltq8 := own_n q8.lt
  have ltq9 := own_n q9.lt
  have ltq10 := own_n q10.lt
  have ltq11 := own_n q11.lt
  have ltq12 := own_n q12.lt
  have ltq13 := own_n q13.lt
  obtain ⟨G_cs, G_zc, G_fm, isref_fm⟩ := id G
  refine k_aloadN X0 d_prog_28_3_0 rfl rfl (pc' := 1) rfl ?_
  refine k_getF X0 d_prog_28_3_1 (host := "") (Or.inl (w_73 hw)) Via.refl q4 (pc' := 4) rfl fun T565 X566 => ?_
  refine k_ifNo X566 d_prog_28_3_4 (by decide) (pc' := 7) rfl ?_
  refine k_aloadN X566 d_prog_28_3_7 rfl rfl (pc' := 8) rfl ?_
  refine k_getF X566 d_prog_28_3_8 (host := "") (Or.inl (w_64 hw)) Via.refl q2 (pc' := 11) rfl fun T567 X568 => ?_
  refine k_aloadN X568 d_prog_28_3_11 rfl rfl (pc' := 12) rfl ?_
  refine k_getF X568 d_prog_28_3_12 (host := "") (Or.inl (w_73 hw)) Via.refl q4 (pc' := 15) rfl fun T569 X570 => ?_
  refine k_iconst X570 d_prog_28_3_15 (w := (1 : Int32)) rfl (pc' := 16) rfl ?_
  refine k_isub X570 d_prog_28_3_16 (w := (1 : Int32)) (by decide) (pc' := 17) rfl ?_
  refine k_iaload X570 d_prog_28_3_17 q12 (by decide) (by decide) (v := (.int x1)) rfl (pc' := 18) rfl ?_
  refine k_iloadN X570 d_prog_28_3_18 rfl (pc' := 19) rfl ?_
  refine k_icmpNo X570 d_prog_28_3_19 (teq hyes).2 (pc' := 22) rfl ?_
  refine k_aloadN X570 d_prog_28_3_22 rfl rfl (pc' := 23) rfl ?_
  refine k_dup X570 d_prog_28_3_23 rfl (pc' := 24) rfl ?_
  refine k_getF X570 d_prog_28_3_24 (host := "") (Or.inl (w_73 hw)) Via.refl q4 (pc' := 27) rfl fun T571 X572 => ?_
  refine k_iconst X572 d_prog_28_3_27 (w := (1 : Int32)) rfl (pc' := 28) rfl ?_
  refine k_isub X572 d_prog_28_3_28 (w := (1 : Int32)) (by decide) (pc' := 29) rfl ?_
  have ge574 : n0 ≤ o := by omega
  refine k_putF X572 d_prog_28_3_29 (host := "") (Or.inl (w_73 hw)) Via.refl q4 q0 (Or.inl (w_74 hw)) (w_37 hw) (ty := .int) (by decide) rfl rfl trivial ge574 (pc' := 32) rfl fun T573 h573 L573 X573 W573 K573 => ?_
  have sz_h573 := K573.1
  have K0_h573 : Keep h0 h573 [o, sb] := K0_h0.trans K573 (allS (Or.inl (List.mem_of_getElem? (i := 0) rfl)) all0)
  have F573 := q4.same W573
  refine k_aloadN X573 d_prog_28_3_32 rfl rfl (pc' := 33) rfl ?_
  have c575 := (q1.other W573 (Or.inr (slot_ne (Or.inr (w_62 hw)) (Or.inl (w_74 hw)) (by decide) (t := (.object "java/lang/StringBuilder")) (t' := .int) (by decide) (by decide))))
  refine k_getF X573 d_prog_28_3_33 (host := "") (Or.inl (w_61 hw)) Via.refl c575 (pc' := 36) rfl fun T576 X577 => ?_
  refine k_aloadN X577 d_prog_28_3_36 rfl rfl (pc' := 37) rfl ?_
  have c578 := (q3.other W573 (Or.inr (slot_ne (Or.inl (w_67 hw)) (Or.inl (w_74 hw)) (by decide) (t := (.array .int)) (t' := .int) (by decide) (by decide))))
  refine k_getF X577 d_prog_28_3_37 (host := "") (Or.inl (w_66 hw)) Via.refl c578 (pc' := 40) rfl fun T579 X580 => ?_
  refine k_aloadN X580 d_prog_28_3_40 rfl rfl (pc' := 41) rfl ?_
  refine k_getF X580 d_prog_28_3_41 (host := "") (Or.inl (w_73 hw)) Via.refl F573 (pc' := 44) rfl fun T581 X582 => ?_
  have c583 := (q13.keep K573 (ninS (own_farN hfar (i := 4) (j := 0) rfl rfl (by decide)) nin0))
  refine k_iaload X582 d_prog_28_3_44 c583 (by decide) (by decide) (v := (.int y1)) rfl (pc' := 45) rfl ?_
  have c584 := (q6.keep K573)
  have c585 := (q7.keep K573 (ninS (own_farN hfar (i := 1) (j := 0) rfl rfl (by decide)) nin0))
  have c586 := (q8.keep K573 (ninS (own_farN hfar (i := 1) (j := 0) rfl rfl (by decide)) nin0))
  have c587 := (q9.keep K573 (ninS (own_farN hfar (i := 1) (j := 0) rfl rfl (by decide)) nin0))
  have c588 := (q10.keep K573 (ninS (own_farN hfar (i := 1) (j := 0) rfl rfl (by decide)) nin0))
  have c589 := (q11.keep K573 (ninS (own_farN hfar (i := 2) (j := 0) rfl rfl (by decide)) nin0))
  have ge590 : n0 ≤ sb := by omega
  refine k_callVNF X582 (y := (⟨"java/lang/StringBuilder", "setLength", "(I)V"⟩ : MethodName)) d_prog_28_3_45 (w_162 hw) (w_163 hw) (w_165 hw) (w_164 hw) (w_45 hw) (w_166 hw) (by decide) (notFace_of_selects (args := #[]) (mvT X582.hZ (w_165 hw))) c584 (argsL := [(.int y1)]) (rest := []) (own_sbS l Z a0 hw G n0 h573 X582.old sb bv kb nv B mb q k y1 hkv hnv hkq hq ge590 c584 c585 c586 c587 c588 c589) rfl pd_9 rfl rfl (by decide) (W := 0) (Nat.le_of_eq rfl) (by decide) (by decide) (by decide) (allS ⟨trivial, ge590⟩ all0) (pc' := 48) rfl ?_
  rintro T592 h592 L592 X592 K592 ⟨mc_591, q592_0, q592_1, q592_2, q592_3, q592_4⟩
  have sz_h592 := K592.1
  have K0_h592 : Keep h0 h592 [o, sb] := K0_h573.trans K592 (allS (Or.inl (List.mem_of_getElem? (i := 1) rfl)) all0)
  have lt592_0 := own_n q592_0.lt
  have lt592_1 := own_n q592_1.lt
  have lt592_2 := own_n q592_2.lt
  have lt592_3 := own_n q592_3.lt
  have lt592_4 := own_n q592_4.lt
  refine k_aloadN X592 d_prog_28_3_48 rfl rfl (pc' := 49) rfl ?_
  refine k_aconstNull X592 d_prog_28_3_49 (pc' := 50) rfl ?_
  have c593 := ((q5.other W573 (Or.inr (slot_ne (Or.inl (w_132 hw)) (Or.inl (w_74 hw)) (by decide) (t := (.object "java/lang/String")) (t' := .int) (by decide) (by decide)))).keep K592 (ninS (own_farN hfar (i := 0) (j := 1) rfl rfl (by decide)) nin0))
  have c594 := ((q0.keep K573).keep K592)
  refine k_putF X592 d_prog_28_3_50 (host := "") (Or.inl (w_131 hw)) Via.refl c593 c594 (Or.inl (w_132 hw)) (w_37 hw) (ty := (.object "java/lang/String")) (by decide) rfl rfl trivial ge574 (pc' := 53) rfl fun T595 h595 L595 X595 W595 K595 => ?_
  have sz_h595 := K595.1
  have K0_h595 : Keep h0 h595 [o, sb] := K0_h592.trans K595 (allS (Or.inl (List.mem_of_getElem? (i := 0) rfl)) all0)
  have F595 := c593.same W595
  have c596 := (c594.keep K595)
  have c597 := ((c575.keep K592 (ninS (own_farN hfar (i := 0) (j := 1) rfl rfl (by decide)) nin0)).other W595 (Or.inr (slot_ne (Or.inr (w_62 hw)) (Or.inl (w_132 hw)) (by decide) (t := (.object "java/lang/StringBuilder")) (t' := (.object "java/lang/String")) (by decide) (by decide))))
  have c598 := (((q2.other W573 (Or.inr (slot_ne (Or.inl (w_65 hw)) (Or.inl (w_74 hw)) (by decide) (t := (.array .int)) (t' := .int) (by decide) (by decide)))).keep K592 (ninS (own_farN hfar (i := 0) (j := 1) rfl rfl (by decide)) nin0)).other W595 (Or.inr (slot_ne (Or.inl (w_65 hw)) (Or.inl (w_132 hw)) (by decide) (t := (.array .int)) (t' := (.object "java/lang/String")) (by decide) (by decide))))
  have c599 := ((c578.keep K592 (ninS (own_farN hfar (i := 0) (j := 1) rfl rfl (by decide)) nin0)).other W595 (Or.inr (slot_ne (Or.inl (w_67 hw)) (Or.inl (w_132 hw)) (by decide) (t := (.array .int)) (t' := (.object "java/lang/String")) (by decide) (by decide))))
  have c600 := ((F573.keep K592 (ninS (own_farN hfar (i := 0) (j := 1) rfl rfl (by decide)) nin0)).other W595 (Or.inr (slot_ne (Or.inl (w_74 hw)) (Or.inl (w_132 hw)) (by decide) (t := .int) (t' := (.object "java/lang/String")) (by decide) (by decide))))
  have c601 := (q592_0.keep K595)
  have c602 := (q592_1.keep K595 (ninS (own_farN hfar (i := 1) (j := 0) rfl rfl (by decide)) nin0))
  have c603 := (q592_2.keep K595 (ninS (own_farN hfar (i := 1) (j := 0) rfl rfl (by decide)) nin0))
  have c604 := (q592_3.keep K595 (ninS (own_farN hfar (i := 1) (j := 0) rfl rfl (by decide)) nin0))
  have c605 := (q592_4.keep K595 (ninS (own_farN hfar (i := 1) (j := 0) rfl rfl (by decide)) nin0))
  exact k_retFV X595 d_prog_28_3_53 rfl K0_h595 ⟨rfl, _, c596, c597, c598, c599, c600, F595, c601, c602, c603, c604, c605⟩ (by decide) (by decide)
set_option maxRecDepth 65536 in
set_option maxHeartbeats 40000000 in
theorem own_nsH (l : Launch) (Z : State) (a0 : Array Value) (hw : ∀ d ∈ tables_1, d.before a0 Z = true) {zc : Int32} {fm : Value}  (G : Gl Z zc fm) (n0 : Nat) (h0 : Heap) (O0 : Old Z n0 h0) (b : Nat) (kb : ClassId) (B : List Int32) (n : Nat) (nv : Int32) (hnv : nv = Int32.ofNat n) (hn : n ≤ 6) (hBl : B.length = 16) (o : Nat)  (q0 : Arv Z h0 b kb .byte (16 : Int32) (own_lat B) (.int (0 : Int32))) (q1 : Exa Z h0 o "com/example/colophon/colophon/OpenIds") :
    MetH l [] Z EL n0 (⟨"java/lang/StringLatin1", "newString", "([BII)Ljava/lang/String;"⟩ : MethodName) jdk_43_method_47_code 3 (Option.some (FieldType.object "java/lang/String")) ({ frames := 3, cells := 2, slots := 10, locals := 50 } : Room) #[(.ref b), (.int (0 : Int32)), (.int nv)] h0 [] (fun r v' h' => ∃ w, r = some w ∧ ∃ (r : Nat), ∃ (t9 : Nat), ∃ (kt9 : ClassId), w = (.ref r) ∧ (Exa Z h' r "java/lang/String") ∧ (Fld Z h' r "java/lang/String" "value" "[B" (.ref t9)) ∧ (Fld Z h' r "java/lang/String" "coder" "B" (.int (0 : Int32))) ∧ (Arv Z h' t9 kt9 .byte (Int32.ofNat n) (own_lat (B.take n)) (.int (0 : Int32))) ∧ (¬ o = r ∧ ¬ o = t9)) := by
  refine metH (hEL hw) (plainFor_of_name pn_2) O0 (Ls := #[.val (.ref b), .val (.int (0 : Int32)), .val (.int nv)]) (fun m => by first | (simp [entryFrame, mkF, argsToLocals, Value.category]; done) | rfl) ?_
  intro p e s m below meth c T0 v0 X0 hSf
  have K0_h0 := Keep.refl h0 []
  have n0le := X0.n0le
  have ltq0 := own_n q0.lt
  have ltq1 := own_n q1.lt
  obtain ⟨G_cs, G_zc, G_fm, isref_fm⟩ := id G
  have lto := own_n q1.lt
  refine k_iloadN X0 d_jdk_43_47_0 rfl (pc' := 1) rfl ?_
  by_cases hc606 : nv = (0 : Int32)
  · have h0 : n = 0 := own_inj (by omega) (by decide) (hnv.symm.trans hc606)
    subst h0
    refine k_ifNo X0 d_jdk_43_47_1 ((if0 _ _).trans (teq hc606).2) (pc' := 4) rfl ?_
    refine k_ldcR X0 d_jdk_43_47_4 (w_202 hw) (own_wS hw) (List.mem_of_getElem? (i := 1) rfl) (vs := []) (z := (0 : Int32)) (by decide) (by decide) rfl (n := 0) (by decide) (by decide) (by decide) (by decide) (pc' := 6) rfl fun s607 bb607 kb607 v607 T607 h607 X607 K607 C607 E607 Fc607 Fv607 V607 nq607 => ?_
    have sz_h607 := K607.1
    have K0_h607 : Keep h0 h607 [] := K0_h0.trans K607 all0
    have lt607 := own_n E607.lt
    have ltb607 := own_n V607.lt
    have c608 := (q1.keep K607)
    exact k_retHA X607 d_jdk_43_47_6 rfl rfl rfl rfl K0_h607 (fun v' C' => ⟨_, rfl, _, _, _, rfl, E607, Fv607, Fc607, V607, (nq607 o (X607.sfE c608))⟩) (by decide) (by decide)
  · refine k_ifYes X0 d_jdk_43_47_1 ((if0 _ _).trans (feq hc606).2) (pc' := 7) (by decide) (by decide) ?_
    refine k_newO X0 d_jdk_43_47_7 (w_209 hw) (w_5 hw) (w_6 hw) (by decide) (by decide) (pc' := 10) rfl fun T609 h609 b609 g609 X609 K609 E609 D609 S609 lt609 ge609 => ?_
    have sz_h609 := K609.1
    have K0_h609 : Keep h0 h609 [] := K0_h0.trans K609 all0
    have Fn609_coder : Fld Z h609 b609 "java/lang/String" "coder" "B" (.int (0 : Int32)) := D609 (Or.inr (w_31 hw)) (ty := .byte) (by decide)
    have Fn609_value : Fld Z h609 b609 "java/lang/String" "value" "[B" .null := D609 (Or.inr (w_33 hw)) (ty := (.array .byte)) (by decide)
    refine k_dup X609 d_jdk_43_47_10 rfl (pc' := 11) rfl ?_
    refine k_aloadN X609 d_jdk_43_47_11 rfl rfl (pc' := 12) rfl ?_
    refine k_iloadN X609 d_jdk_43_47_12 rfl (pc' := 13) rfl ?_
    refine k_iloadN X609 d_jdk_43_47_13 rfl (pc' := 14) rfl ?_
    refine k_iloadN X609 d_jdk_43_47_14 rfl (pc' := 15) rfl ?_
    refine k_iadd X609 d_jdk_43_47_15 (w := nv) (by simp) (pc' := 16) rfl ?_
    have c610 := (q0.keep K609 nin0)
    refine k_callSVF X609 (y := (⟨"java/util/Arrays", "copyOfRange", "([BII)[B"⟩ : MethodName)) d_jdk_43_47_16 (w_210 hw) (w_211 hw) (w_212 hw) (w_213 hw) (by decide) (argsL := [(.ref b), (.int (0 : Int32)), (.int nv)]) (rest := [(.ref b609), (.ref b609)]) (own_cor l Z a0 hw G n0 h609 X609.old b kb (16 : Int32) (own_lat B) 16 0 n (0 : Int32) nv rfl (by rw [own_latlen]; exact hBl) rfl (by rw [Nat.zero_add]; exact hnv) (by decide) (by omega) hn (by omega) c610) rfl pd_8 rfl rfl (by decide) (W := 2) (Nat.le_of_eq rfl) (by decide) (by decide) (by decide) all0 (pc' := 19) rfl ?_
    rintro _ T613 h613 L613 X613 K613 ⟨t_611, kt_612, rfl, q613_0, q613_1⟩
    have sz_h613 := K613.1
    have K0_h613 : Keep h0 h613 [] := K0_h609.trans K613 all0
    have lt613_0 := own_n q613_0.lt
    have sn613_1 := X609.sf K613 all0 (X609.sfN q613_1)
    rw [own_lat_cut, List.drop_zero] at q613_0
    refine k_iconst X613 d_jdk_43_47_19 (w := (0 : Int32)) rfl (pc' := 20) rfl ?_
    have c615 := (E609.keep K613)
    have c616 := (Fn609_value.keep K613 nin0)
    have c617 := (Fn609_coder.keep K613 nin0)
    have ge618 : n0 ≤ b609 := by omega
    have c619 := (X609.sf K613 all0 S609)
    refine k_callPNF X613 (y := (⟨"java/lang/String", "<init>", "([BB)V"⟩ : MethodName)) d_jdk_43_47_20 (w_225 hw) (w_226 hw) (w_6 hw) (w_227 hw) (by decide) rfl rfl (argsL := [(.ref t_611), (.int (0 : Int32))]) (rest := [(.ref b609)]) (own_initBB0 l Z a0 hw G n0 h613 X613.old b609 t_611 ge618 c615 c616 c617) rfl pd_18 rfl rfl (by decide) (W := 1) (Nat.le_of_eq rfl) (by decide) (by decide) (by decide) (allS ⟨c619, ge618⟩ all0) (pc' := 23) rfl ?_
    rintro T620 h620 L620 X620 K620 ⟨q620_0, q620_1, q620_2⟩
    have sz_h620 := K620.1
    have od621 : h0.size ≤ b609 := by omega
    have K0_h620 : Keep h0 h620 [] := K0_h613.trans K620 (allS (Or.inr od621) all0)
    have lt620_0 := own_n q620_0.lt
    have lt620_1 := own_n q620_1.lt
    have lt620_2 := own_n q620_2.lt
    have ne622 : (t_611 : Nat) ≠ b609 := own_ne (by omega)
    have c623 := (q613_0.keep K620 (ninS ne622 nin0))
    exact k_retHA X620 d_jdk_43_47_23 rfl rfl rfl rfl K0_h620 (fun v' C' => ⟨_, rfl, _, _, _, rfl, q620_0, q620_1, q620_2, c623, ⟨by omega, by omega⟩⟩) (by decide) (by decide)
set_option maxRecDepth 65536 in
set_option maxHeartbeats 40000000 in
theorem own_asbT2 (l : Launch) (Z : State) (a0 : Array Value) (hw : ∀ d ∈ tables_1, d.before a0 Z = true) {zc : Int32} {fm : Value}  (G : Gl Z zc fm) (n0 : Nat) (h0 : Heap) (O0 : Old Z n0 h0) (a : Nat) (bv : Nat) (kb : ClassId) (B : List Int32) (n : Nat) (nv : Int32) (hnv : nv = Int32.ofNat n) (hn : n ≤ 6) (hBl : B.length = 16) (o : Nat)  (q0 : Exa Z h0 a "java/lang/StringBuilder") (q1 : Fld Z h0 a "java/lang/AbstractStringBuilder" "value" "[B" (.ref bv)) (q2 : Fld Z h0 a "java/lang/AbstractStringBuilder" "coder" "B" (.int (0 : Int32))) (q3 : Fld Z h0 a "java/lang/AbstractStringBuilder" "count" "I" (.int nv)) (q4 : Arv Z h0 bv kb .byte (16 : Int32) (own_lat B) (.int (0 : Int32))) (q5 : Exa Z h0 o "com/example/colophon/colophon/OpenIds") :
    MetH l [] Z EL n0 (⟨"java/lang/AbstractStringBuilder", "substring", "(II)Ljava/lang/String;"⟩ : MethodName) jdk_68_method_42_code 3 (Option.some (FieldType.object "java/lang/String")) ({ frames := 4, cells := 2, slots := 10, locals := 64 } : Room) #[(.ref a), (.int (0 : Int32)), (.int nv)] h0 [] (fun r v' h' => ∃ w, r = some w ∧ ∃ (r : Nat), ∃ (t9 : Nat), ∃ (kt9 : ClassId), w = (.ref r) ∧ (Exa Z h' r "java/lang/String") ∧ (Fld Z h' r "java/lang/String" "value" "[B" (.ref t9)) ∧ (Fld Z h' r "java/lang/String" "coder" "B" (.int (0 : Int32))) ∧ (Arv Z h' t9 kt9 .byte (Int32.ofNat n) (own_lat (B.take n)) (.int (0 : Int32))) ∧ (¬ o = r ∧ ¬ o = t9)) := by
  refine metH (hEL hw) (plainFor_of_name pn_6) O0 (Ls := #[.val (.ref a), .val (.int (0 : Int32)), .val (.int nv)]) (fun m => by first | (simp [entryFrame, mkF, argsToLocals, Value.category]; done) | rfl) ?_
  intro p e s m below meth c T0 v0 X0 hSf
  have K0_h0 := Keep.refl h0 []
  have n0le := X0.n0le
  have ltq0 := own_n q0.lt
  have ltq1 := own_n q1.lt
  have ltq2 := own_n q2.lt
  have ltq3 := own_n q3.lt
  have ltq4 := own_n q4.lt
  have ltq5 := own_n q5.lt
  obtain ⟨G_cs, G_zc, G_fm, isref_fm⟩ := id G
  have hnn : ¬ nv < 0 := by rw [hnv]; exact own_nn (by omega)
  refine k_iloadN X0 d_jdk_68_42_0 rfl (pc' := 1) rfl ?_
  refine k_iloadN X0 d_jdk_68_42_1 rfl (pc' := 2) rfl ?_
  refine k_aloadN X0 d_jdk_68_42_2 rfl rfl (pc' := 3) rfl ?_
  refine k_getF X0 d_jdk_68_42_3 (host := "") (Or.inl (w_85 hw)) Via.refl q3 (pc' := 6) rfl fun T624 X625 => ?_
  refine k_getS X625 d_jdk_68_42_6 (host := "") (Or.inl (w_188 hw)) Via.refl (G_fm.ext X625.old.2) (pc' := 9) rfl fun T626 X627 => ?_
  refine k_callSVF X627 (y := (⟨"jdk/internal/util/Preconditions", "checkFromToIndex", "(IIILjava/util/function/BiFunction;)I"⟩ : MethodName)) d_jdk_68_42_9 (w_190 hw) (w_191 hw) (w_189 hw) (w_192 hw) (by decide) (argsL := [(.int (0 : Int32)), (.int nv), (.int nv), fm]) (rest := []) (own_cft l Z a0 hw G n0 h0 X627.old (0 : Int32) nv nv fm isref_fm (by decide) hnn (Int32.lt_irrefl) ) rfl pd_19 rfl rfl (by decide) (W := 0) (Nat.le_of_eq rfl) (by decide) (by decide) (by decide) all0 (pc' := 12) rfl ?_
  rintro _ T628 h628 L628 X628 K628 ⟨rfl, -⟩
  have sz_h628 := K628.1
  have K0_h628 : Keep h0 h628 [] := K0_h0.trans K628 all0
  refine k_pop X628 d_jdk_68_42_12 rfl (pc' := 13) rfl ?_
  refine k_aloadN X628 d_jdk_68_42_13 rfl rfl (pc' := 14) rfl ?_
  have c630 := (q2.keep K628 nin0)
  have c631 := (q0.keep K628)
  refine k_callVVF X628 (y := (⟨"java/lang/AbstractStringBuilder", "isLatin1", "()Z"⟩ : MethodName)) d_jdk_68_42_14 (w_193 hw) (w_194 hw) (w_196 hw) (w_195 hw) (w_53 hw) (w_197 hw) (by decide) (notFace_of_selects (args := #[]) (mvT X628.hZ (w_196 hw))) c631 (argsL := []) (rest := []) (own_asbLat l Z a0 hw G n0 h628 X628.old a c630) rfl pd_20 rfl rfl (by decide) (W := 0) (Nat.le_of_eq rfl) (by decide) (by decide) (by decide) all0 (pc' := 17) rfl ?_
  rintro _ T632 h632 L632 X632 K632 ⟨rfl, -⟩
  have sz_h632 := K632.1
  have K0_h632 : Keep h0 h632 [] := K0_h628.trans K632 all0
  refine k_ifNo X632 d_jdk_68_42_17 (by decide) (pc' := 20) rfl ?_
  refine k_aloadN X632 d_jdk_68_42_20 rfl rfl (pc' := 21) rfl ?_
  have c634 := ((q1.keep K628 nin0).keep K632 nin0)
  refine k_getF X632 d_jdk_68_42_21 (host := "") (Or.inl (w_57 hw)) Via.refl c634 (pc' := 24) rfl fun T635 X636 => ?_
  refine k_iloadN X636 d_jdk_68_42_24 rfl (pc' := 25) rfl ?_
  refine k_iloadN X636 d_jdk_68_42_25 rfl (pc' := 26) rfl ?_
  refine k_iloadN X636 d_jdk_68_42_26 rfl (pc' := 27) rfl ?_
  refine k_isub X636 d_jdk_68_42_27 (w := nv) (by simp) (pc' := 28) rfl ?_
  have c637 := ((q4.keep K628 nin0).keep K632 nin0)
  have c638 := ((q5.keep K628).keep K632)
  refine k_callSVH X636 (y := (⟨"java/lang/StringLatin1", "newString", "([BII)Ljava/lang/String;"⟩ : MethodName)) d_jdk_68_42_28 (w_198 hw) (w_199 hw) (w_200 hw) (w_201 hw) (by decide) (argsL := [(.ref bv), (.int (0 : Int32)), (.int nv)]) (rest := []) (own_nsH l Z a0 hw G n0 h632 X636.old bv kb B n nv hnv hn hBl o c637 c638) rfl pd_21 rfl rfl (by decide) (W := 0) (Nat.le_of_eq rfl) (by decide) (by decide) (by decide) all0 (pc' := 31) rfl ?_
  rintro _ v642 T642 h642 L642 X642 K642 C642 ⟨r_639, t9_640, kt9_641, rfl, q642_0, q642_1, q642_2, q642_3, q642_4⟩
  have sz_h642 := K642.1
  have K0_h642 : Keep h0 h642 [] := K0_h632.trans K642 all0
  have lt642_0 := own_n q642_0.lt
  have lt642_1 := own_n q642_1.lt
  have lt642_2 := own_n q642_2.lt
  have lt642_3 := own_n q642_3.lt
  exact k_retHA X642 d_jdk_68_42_31 rfl rfl rfl rfl K0_h642 (fun v' C' => ⟨_, rfl, _, _, _, rfl, q642_0, q642_1, q642_2, q642_3, q642_4⟩) (by decide) (by decide)
set_option maxRecDepth 65536 in
set_option maxHeartbeats 40000000 in
theorem own_sbT2 (l : Launch) (Z : State) (a0 : Array Value) (hw : ∀ d ∈ tables_1, d.before a0 Z = true) {zc : Int32} {fm : Value}  (G : Gl Z zc fm) (n0 : Nat) (h0 : Heap) (O0 : Old Z n0 h0) (a : Nat) (bv : Nat) (kb : ClassId) (B : List Int32) (n : Nat) (nv : Int32) (hnv : nv = Int32.ofNat n) (hn : n ≤ 6) (hBl : B.length = 16) (o : Nat)  (q0 : Exa Z h0 a "java/lang/StringBuilder") (q1 : Fld Z h0 a "java/lang/AbstractStringBuilder" "value" "[B" (.ref bv)) (q2 : Fld Z h0 a "java/lang/AbstractStringBuilder" "coder" "B" (.int (0 : Int32))) (q3 : Fld Z h0 a "java/lang/AbstractStringBuilder" "count" "I" (.int nv)) (q4 : Arv Z h0 bv kb .byte (16 : Int32) (own_lat B) (.int (0 : Int32))) (q5 : Exa Z h0 o "com/example/colophon/colophon/OpenIds") :
    MetH l [] Z EL n0 (⟨"java/lang/StringBuilder", "substring", "(II)Ljava/lang/String;"⟩ : MethodName) jdk_67_method_62_code 3 (Option.some (FieldType.object "java/lang/String")) ({ frames := 5, cells := 2, slots := 10, locals := 78 } : Room) #[(.ref a), (.int (0 : Int32)), (.int nv)] h0 [] (fun r v' h' => ∃ w, r = some w ∧ ∃ (r : Nat), ∃ (t9 : Nat), ∃ (kt9 : ClassId), w = (.ref r) ∧ (Exa Z h' r "java/lang/String") ∧ (Fld Z h' r "java/lang/String" "value" "[B" (.ref t9)) ∧ (Fld Z h' r "java/lang/String" "coder" "B" (.int (0 : Int32))) ∧ (Arv Z h' t9 kt9 .byte (Int32.ofNat n) (own_lat (B.take n)) (.int (0 : Int32))) ∧ (¬ o = r ∧ ¬ o = t9)) := by
  refine metH (hEL hw) (plainFor_of_name pn_7) O0 (Ls := #[.val (.ref a), .val (.int (0 : Int32)), .val (.int nv)]) (fun m => by first | (simp [entryFrame, mkF, argsToLocals, Value.category]; done) | rfl) ?_
  intro p e s m below meth c T0 v0 X0 hSf
  have K0_h0 := Keep.refl h0 []
  have n0le := X0.n0le
  have ltq0 := own_n q0.lt
  have ltq1 := own_n q1.lt
  have ltq2 := own_n q2.lt
  have ltq3 := own_n q3.lt
  have ltq4 := own_n q4.lt
  have ltq5 := own_n q5.lt
  obtain ⟨G_cs, G_zc, G_fm, isref_fm⟩ := id G
  have hnn : ¬ nv < 0 := by rw [hnv]; exact own_nn (by omega)
  refine k_aloadN X0 d_jdk_67_62_0 rfl rfl (pc' := 1) rfl ?_
  refine k_iloadN X0 d_jdk_67_62_1 rfl (pc' := 2) rfl ?_
  refine k_iloadN X0 d_jdk_67_62_2 rfl (pc' := 3) rfl ?_
  refine k_callUVH X0 (y := (⟨"java/lang/AbstractStringBuilder", "substring", "(II)Ljava/lang/String;"⟩ : MethodName)) d_jdk_67_62_3 (w_186 hw) (w_182 hw) (w_109 hw) rfl (w_82 hw) (w_53 hw) (w_187 hw) (by decide) (by decide) (Ins.self q0) (argsL := [(.int (0 : Int32)), (.int nv)]) (rest := []) (own_asbT2 l Z a0 hw G n0 h0 X0.old a bv kb B n nv hnv hn hBl o q0 q1 q2 q3 q4 q5) rfl pd_22 rfl rfl (by decide) (W := 0) (Nat.le_of_eq rfl) (by decide) (by decide) (by decide) all0 (pc' := 6) rfl ?_
  rintro _ v647 T647 h647 L647 X647 K647 C647 ⟨r_644, t9_645, kt9_646, rfl, q647_0, q647_1, q647_2, q647_3, q647_4⟩
  have sz_h647 := K647.1
  have K0_h647 : Keep h0 h647 [] := K0_h0.trans K647 all0
  have lt647_0 := own_n q647_0.lt
  have lt647_1 := own_n q647_1.lt
  have lt647_2 := own_n q647_2.lt
  have lt647_3 := own_n q647_3.lt
  exact k_retHA X647 d_jdk_67_62_6 rfl rfl rfl rfl K0_h647 (fun v' C' => ⟨_, rfl, _, _, _, rfl, q647_0, q647_1, q647_2, q647_3, q647_4⟩) (by decide) (by decide)
set_option maxRecDepth 65536 in
set_option maxHeartbeats 40000000 in
theorem own_asbT1 (l : Launch) (Z : State) (a0 : Array Value) (hw : ∀ d ∈ tables_1, d.before a0 Z = true) {zc : Int32} {fm : Value}  (G : Gl Z zc fm) (n0 : Nat) (h0 : Heap) (O0 : Old Z n0 h0) (a : Nat) (bv : Nat) (kb : ClassId) (B : List Int32) (n : Nat) (nv : Int32) (hnv : nv = Int32.ofNat n) (hn : n ≤ 6) (hBl : B.length = 16) (o : Nat)  (q0 : Exa Z h0 a "java/lang/StringBuilder") (q1 : Fld Z h0 a "java/lang/AbstractStringBuilder" "value" "[B" (.ref bv)) (q2 : Fld Z h0 a "java/lang/AbstractStringBuilder" "coder" "B" (.int (0 : Int32))) (q3 : Fld Z h0 a "java/lang/AbstractStringBuilder" "count" "I" (.int nv)) (q4 : Arv Z h0 bv kb .byte (16 : Int32) (own_lat B) (.int (0 : Int32))) (q5 : Exa Z h0 o "com/example/colophon/colophon/OpenIds") :
    MetH l [] Z EL n0 (⟨"java/lang/AbstractStringBuilder", "substring", "(I)Ljava/lang/String;"⟩ : MethodName) jdk_68_method_40_code 2 (Option.some (FieldType.object "java/lang/String")) ({ frames := 6, cells := 2, slots := 10, locals := 92 } : Room) #[(.ref a), (.int (0 : Int32))] h0 [] (fun r v' h' => ∃ w, r = some w ∧ ∃ (r : Nat), ∃ (t9 : Nat), ∃ (kt9 : ClassId), w = (.ref r) ∧ (Exa Z h' r "java/lang/String") ∧ (Fld Z h' r "java/lang/String" "value" "[B" (.ref t9)) ∧ (Fld Z h' r "java/lang/String" "coder" "B" (.int (0 : Int32))) ∧ (Arv Z h' t9 kt9 .byte (Int32.ofNat n) (own_lat (B.take n)) (.int (0 : Int32))) ∧ (¬ o = r ∧ ¬ o = t9)) := by
  refine metH (hEL hw) (plainFor_of_name pn_6) O0 (Ls := #[.val (.ref a), .val (.int (0 : Int32))]) (fun m => by first | (simp [entryFrame, mkF, argsToLocals, Value.category]; done) | rfl) ?_
  intro p e s m below meth c T0 v0 X0 hSf
  have K0_h0 := Keep.refl h0 []
  have n0le := X0.n0le
  have ltq0 := own_n q0.lt
  have ltq1 := own_n q1.lt
  have ltq2 := own_n q2.lt
  have ltq3 := own_n q3.lt
  have ltq4 := own_n q4.lt
  have ltq5 := own_n q5.lt
  obtain ⟨G_cs, G_zc, G_fm, isref_fm⟩ := id G
  have hnn : ¬ nv < 0 := by rw [hnv]; exact own_nn (by omega)
  refine k_aloadN X0 d_jdk_68_40_0 rfl rfl (pc' := 1) rfl ?_
  refine k_iloadN X0 d_jdk_68_40_1 rfl (pc' := 2) rfl ?_
  refine k_aloadN X0 d_jdk_68_40_2 rfl rfl (pc' := 3) rfl ?_
  refine k_getF X0 d_jdk_68_40_3 (host := "") (Or.inl (w_85 hw)) Via.refl q3 (pc' := 6) rfl fun T649 X650 => ?_
  refine k_callVVH X650 (y := (⟨"java/lang/StringBuilder", "substring", "(II)Ljava/lang/String;"⟩ : MethodName)) d_jdk_68_40_6 (w_180 hw) (w_181 hw) (w_183 hw) (w_184 hw) (w_45 hw) (w_185 hw) (by decide) (nfOf (args := #[]) (mvT X650.hZ (w_109 hw)) rfl) q0 (argsL := [(.int (0 : Int32)), (.int nv)]) (rest := []) (own_sbT2 l Z a0 hw G n0 h0 X650.old a bv kb B n nv hnv hn hBl o q0 q1 q2 q3 q4 q5) rfl pd_22 rfl rfl (by decide) (W := 0) (Nat.le_of_eq rfl) (by decide) (by decide) (by decide) all0 (pc' := 9) rfl ?_
  rintro _ v654 T654 h654 L654 X654 K654 C654 ⟨r_651, t9_652, kt9_653, rfl, q654_0, q654_1, q654_2, q654_3, q654_4⟩
  have sz_h654 := K654.1
  have K0_h654 : Keep h0 h654 [] := K0_h0.trans K654 all0
  have lt654_0 := own_n q654_0.lt
  have lt654_1 := own_n q654_1.lt
  have lt654_2 := own_n q654_2.lt
  have lt654_3 := own_n q654_3.lt
  exact k_retHA X654 d_jdk_68_40_9 rfl rfl rfl rfl K0_h654 (fun v' C' => ⟨_, rfl, _, _, _, rfl, q654_0, q654_1, q654_2, q654_3, q654_4⟩) (by decide) (by decide)
set_option maxRecDepth 65536 in
set_option maxHeartbeats 40000000 in
theorem own_sbT1 (l : Launch) (Z : State) (a0 : Array Value) (hw : ∀ d ∈ tables_1, d.before a0 Z = true) {zc : Int32} {fm : Value}  (G : Gl Z zc fm) (n0 : Nat) (h0 : Heap) (O0 : Old Z n0 h0) (a : Nat) (bv : Nat) (kb : ClassId) (B : List Int32) (n : Nat) (nv : Int32) (hnv : nv = Int32.ofNat n) (hn : n ≤ 6) (hBl : B.length = 16) (o : Nat)  (q0 : Exa Z h0 a "java/lang/StringBuilder") (q1 : Fld Z h0 a "java/lang/AbstractStringBuilder" "value" "[B" (.ref bv)) (q2 : Fld Z h0 a "java/lang/AbstractStringBuilder" "coder" "B" (.int (0 : Int32))) (q3 : Fld Z h0 a "java/lang/AbstractStringBuilder" "count" "I" (.int nv)) (q4 : Arv Z h0 bv kb .byte (16 : Int32) (own_lat B) (.int (0 : Int32))) (q5 : Exa Z h0 o "com/example/colophon/colophon/OpenIds") :
    MetH l [] Z EL n0 (⟨"java/lang/StringBuilder", "substring", "(I)Ljava/lang/String;"⟩ : MethodName) jdk_67_method_64_code 2 (Option.some (FieldType.object "java/lang/String")) ({ frames := 7, cells := 2, slots := 10, locals := 105 } : Room) #[(.ref a), (.int (0 : Int32))] h0 [] (fun r v' h' => ∃ w, r = some w ∧ ∃ (r : Nat), ∃ (t9 : Nat), ∃ (kt9 : ClassId), w = (.ref r) ∧ (Exa Z h' r "java/lang/String") ∧ (Fld Z h' r "java/lang/String" "value" "[B" (.ref t9)) ∧ (Fld Z h' r "java/lang/String" "coder" "B" (.int (0 : Int32))) ∧ (Arv Z h' t9 kt9 .byte (Int32.ofNat n) (own_lat (B.take n)) (.int (0 : Int32))) ∧ (¬ o = r ∧ ¬ o = t9)) := by
  refine metH (hEL hw) (plainFor_of_name pn_7) O0 (Ls := #[.val (.ref a), .val (.int (0 : Int32))]) (fun m => by first | (simp [entryFrame, mkF, argsToLocals, Value.category]; done) | rfl) ?_
  intro p e s m below meth c T0 v0 X0 hSf
  have K0_h0 := Keep.refl h0 []
  have n0le := X0.n0le
  have ltq0 := own_n q0.lt
  have ltq1 := own_n q1.lt
  have ltq2 := own_n q2.lt
  have ltq3 := own_n q3.lt
  have ltq4 := own_n q4.lt
  have ltq5 := own_n q5.lt
  obtain ⟨G_cs, G_zc, G_fm, isref_fm⟩ := id G
  have hnn : ¬ nv < 0 := by rw [hnv]; exact own_nn (by omega)
  refine k_aloadN X0 d_jdk_67_64_0 rfl rfl (pc' := 1) rfl ?_
  refine k_iloadN X0 d_jdk_67_64_1 rfl (pc' := 2) rfl ?_
  refine k_callUVH X0 (y := (⟨"java/lang/AbstractStringBuilder", "substring", "(I)Ljava/lang/String;"⟩ : MethodName)) d_jdk_67_64_2 (w_176 hw) (w_177 hw) (w_109 hw) rfl (w_82 hw) (w_53 hw) (w_179 hw) (by decide) (by decide) (Ins.self q0) (argsL := [(.int (0 : Int32))]) (rest := []) (own_asbT1 l Z a0 hw G n0 h0 X0.old a bv kb B n nv hnv hn hBl o q0 q1 q2 q3 q4 q5) rfl pd_23 rfl rfl (by decide) (W := 0) (Nat.le_of_eq rfl) (by decide) (by decide) (by decide) all0 (pc' := 5) rfl ?_
  rintro _ v659 T659 h659 L659 X659 K659 C659 ⟨r_656, t9_657, kt9_658, rfl, q659_0, q659_1, q659_2, q659_3, q659_4⟩
  have sz_h659 := K659.1
  have K0_h659 : Keep h0 h659 [] := K0_h0.trans K659 all0
  have lt659_0 := own_n q659_0.lt
  have lt659_1 := own_n q659_1.lt
  have lt659_2 := own_n q659_2.lt
  have lt659_3 := own_n q659_3.lt
  exact k_retHA X659 d_jdk_67_64_5 rfl rfl rfl rfl K0_h659 (fun v' C' => ⟨_, rfl, _, _, _, rfl, q659_0, q659_1, q659_2, q659_3, q659_4⟩) (by decide) (by decide)
set_option maxRecDepth 65536 in
set_option maxHeartbeats 40000000 in
theorem own_inR (l : Launch) (Z : State) (a0 : Array Value) (hw : ∀ d ∈ tables_1, d.before a0 Z = true) {zc : Int32} {fm : Value}  (G : Gl Z zc fm) (n0 : Nat) (h0 : Heap) (O0 : Old Z n0 h0) (o : Nat) (z : Nat)  (q0 : Fld Z h0 o "com/example/colophon/colophon/OpenIds" "innermost" "Ljava/lang/String;" (.ref z)) :
    MetF l [] Z n0 (⟨"com/example/colophon/colophon/OpenIds", "innermost", "()Ljava/lang/String;"⟩ : MethodName) prog_28_method_4_code 1 (Option.some (FieldType.object "java/lang/String")) ({ frames := 0, cells := 0, slots := 0, locals := 0 } : Room) #[(.ref o)] h0 [] (fun r h' => ∃ w, r = some w ∧ w = (.ref z) ∧ True) := by
  refine metF (plainFor_of_name pn_9) O0 (Ls := #[.val (.ref o)]) (fun m => by first | (simp [entryFrame, mkF, argsToLocals, Value.category]; done) | rfl) ?_
  intro p e s m below meth c T0 X0
  have K0_h0 := Keep.refl h0 []
  have n0le := X0.n0le
  have ltq0 := own_n q0.lt
  obtain ⟨G_cs, G_zc, G_fm, isref_fm⟩ := id G
  refine k_aloadN X0 d_prog_28_4_0 rfl rfl (pc' := 1) rfl ?_
  refine k_getF X0 d_prog_28_4_1 (host := "") (Or.inl (w_131 hw)) Via.refl q0 (pc' := 4) rfl fun T661 X662 => ?_
  refine k_ifnonnullYes X662 d_prog_28_4_4 (pc' := 36) (by decide) (by decide) ?_
  refine k_aloadN X662 d_prog_28_4_36 rfl rfl (pc' := 37) rfl ?_
  refine k_getF X662 d_prog_28_4_37 (host := "") (Or.inl (w_131 hw)) Via.refl q0 (pc' := 40) rfl fun T663 X664 => ?_
  exact k_retFA X664 d_prog_28_4_40 rfl rfl rfl rfl K0_h0 ⟨_, rfl, rfl, trivial⟩ (by decide) (by decide)
set_option maxRecDepth 65536 in
set_option maxHeartbeats 40000000 in
theorem own_inN (l : Launch) (Z : State) (a0 : Array Value) (hw : ∀ d ∈ tables_1, d.before a0 Z = true) {zc : Int32} {fm : Value}  (G : Gl Z zc fm) (n0 : Nat) (h0 : Heap) (O0 : Old Z n0 h0) (o : Nat)  (q0 : Fld Z h0 o "com/example/colophon/colophon/OpenIds" "innermost" "Ljava/lang/String;" .null) (q1 : Fld Z h0 o "com/example/colophon/colophon/OpenIds" "count" "I" (.int (0 : Int32))) :
    MetF l [] Z n0 (⟨"com/example/colophon/colophon/OpenIds", "innermost", "()Ljava/lang/String;"⟩ : MethodName) prog_28_method_4_code 1 (Option.some (FieldType.object "java/lang/String")) ({ frames := 0, cells := 0, slots := 0, locals := 0 } : Room) #[(.ref o)] h0 [] (fun r h' => ∃ w, r = some w ∧ w = .null ∧ True) := by
  refine metF (plainFor_of_name pn_9) O0 (Ls := #[.val (.ref o)]) (fun m => by first | (simp [entryFrame, mkF, argsToLocals, Value.category]; done) | rfl) ?_
  intro p e s m below meth c T0 X0
  have K0_h0 := Keep.refl h0 []
  have n0le := X0.n0le
  have ltq0 := own_n q0.lt
  have ltq1 := own_n q1.lt
  obtain ⟨G_cs, G_zc, G_fm, isref_fm⟩ := id G
  refine k_aloadN X0 d_prog_28_4_0 rfl rfl (pc' := 1) rfl ?_
  refine k_getF X0 d_prog_28_4_1 (host := "") (Or.inl (w_131 hw)) Via.refl q0 (pc' := 4) rfl fun T665 X666 => ?_
  refine k_ifnonnullNo X666 d_prog_28_4_4 (pc' := 7) rfl ?_
  refine k_aloadN X666 d_prog_28_4_7 rfl rfl (pc' := 8) rfl ?_
  refine k_getF X666 d_prog_28_4_8 (host := "") (Or.inl (w_73 hw)) Via.refl q1 (pc' := 11) rfl fun T667 X668 => ?_
  refine k_ifYes X668 d_prog_28_4_11 (by decide) (pc' := 36) (by decide) (by decide) ?_
  refine k_aloadN X668 d_prog_28_4_36 rfl rfl (pc' := 37) rfl ?_
  refine k_getF X668 d_prog_28_4_37 (host := "") (Or.inl (w_131 hw)) Via.refl q0 (pc' := 40) rfl fun T669 X670 => ?_
  exact k_retFA X670 d_prog_28_4_40 rfl rfl rfl rfl K0_h0 ⟨_, rfl, rfl, trivial⟩ (by decide) (by decide)
set_option maxRecDepth 65536 in
set_option maxHeartbeats 40000000 in
theorem own_inS (l : Launch) (Z : State) (a0 : Array Value) (hw : ∀ d ∈ tables_1, d.before a0 Z = true) {zc : Int32} {fm : Value}  (G : Gl Z zc fm) (n0 : Nat) (h0 : Heap) (O0 : Old Z n0 h0) (o : Nat) (sb : Nat) (dp : Nat) (sp : Nat) (ks : ClassId) (bv : Nat) (kb : ClassId) (B : List Int32) (n : Nat) (nv : Int32) (hnv : nv = Int32.ofNat n) (hn : n ≤ 6) (hBl : B.length = 16) (hfar : own_far [o, sb, bv, dp, sp]) (y1 : Int32) (gw0 : n0 ≤ o) (q0 : Exa Z h0 o "com/example/colophon/colophon/OpenIds") (q1 : Fld Z h0 o "com/example/colophon/colophon/OpenIds" "characters" "Ljava/lang/StringBuilder;" (.ref sb)) (q2 : Fld Z h0 o "com/example/colophon/colophon/OpenIds" "depths" "[I" (.ref dp)) (q3 : Fld Z h0 o "com/example/colophon/colophon/OpenIds" "starts" "[I" (.ref sp)) (q4 : Fld Z h0 o "com/example/colophon/colophon/OpenIds" "count" "I" (.int (1 : Int32))) (q5 : Fld Z h0 o "com/example/colophon/colophon/OpenIds" "innermost" "Ljava/lang/String;" .null) (q6 : Exa Z h0 sb "java/lang/StringBuilder") (q7 : Fld Z h0 sb "java/lang/AbstractStringBuilder" "value" "[B" (.ref bv)) (q8 : Fld Z h0 sb "java/lang/AbstractStringBuilder" "coder" "B" (.int (0 : Int32))) (q9 : Fld Z h0 sb "java/lang/AbstractStringBuilder" "count" "I" (.int nv)) (q10 : Arv Z h0 bv kb .byte (16 : Int32) (own_lat B) (.int (0 : Int32))) (q11 : Arv Z h0 sp ks .int (16 : Int32) [(.int (0 : Int32)), (.int y1), (.int (0 : Int32)), (.int (0 : Int32)), (.int (0 : Int32)), (.int (0 : Int32)), (.int (0 : Int32)), (.int (0 : Int32)), (.int (0 : Int32)), (.int (0 : Int32)), (.int (0 : Int32)), (.int (0 : Int32)), (.int (0 : Int32)), (.int (0 : Int32)), (.int (0 : Int32)), (.int (0 : Int32))] (.int (0 : Int32))) :
    MetH l [] Z EL n0 (⟨"com/example/colophon/colophon/OpenIds", "innermost", "()Ljava/lang/String;"⟩ : MethodName) prog_28_method_4_code 1 (Option.some (FieldType.object "java/lang/String")) ({ frames := 8, cells := 2, slots := 10, locals := 119 } : Room) #[(.ref o)] h0 [o] (fun r v' h' => ∃ w, r = some w ∧ ∃ (r : Nat), ∃ (t9 : Nat), ∃ (kt9 : ClassId), w = (.ref r) ∧ (Exa Z h' o "com/example/colophon/colophon/OpenIds") ∧ (Fld Z h' o "com/example/colophon/colophon/OpenIds" "characters" "Ljava/lang/StringBuilder;" (.ref sb)) ∧ (Fld Z h' o "com/example/colophon/colophon/OpenIds" "depths" "[I" (.ref dp)) ∧ (Fld Z h' o "com/example/colophon/colophon/OpenIds" "starts" "[I" (.ref sp)) ∧ (Fld Z h' o "com/example/colophon/colophon/OpenIds" "count" "I" (.int (1 : Int32))) ∧ (Fld Z h' o "com/example/colophon/colophon/OpenIds" "innermost" "Ljava/lang/String;" (.ref r)) ∧ (Exa Z h' r "java/lang/String") ∧ (Fld Z h' r "java/lang/String" "value" "[B" (.ref t9)) ∧ (Fld Z h' r "java/lang/String" "coder" "B" (.int (0 : Int32))) ∧ (Arv Z h' t9 kt9 .byte (Int32.ofNat n) (own_lat (B.take n)) (.int (0 : Int32)))) := by
  refine metH (hEL hw) (plainFor_of_name pn_9) O0 (Ls := #[.val (.ref o)]) (fun m => by first | (simp [entryFrame, mkF, argsToLocals, Value.category]; done) | rfl) ?_
  intro p e s m below meth c T0 v0 X0 hSf
  have K0_h0 := Keep.refl h0 [o]
  have n0le := X0.n0le
  have ltq0 := own_n q0.lt
  have ltq1 := own_n q1.lt
  have ltq2 := own_n q2.lt
  have ltq3 := own_n q3.lt
  have ltq4 := own_n q4.lt
  have ltq5 := own_n q5.lt
  have ltq6 := own_n q6.lt
  have ltq7 := own_n q7.lt
  have ltq8 := own_n q8.lt
  have ltq9 := own_n q9.lt
  have ltq10 := own_n q10.lt
  have ltq11 := own_n q11.lt
  have sf_0 := hSf o (List.mem_of_getElem? (i := 0) rfl)
  obtain ⟨G_cs, G_zc, G_fm, isref_fm⟩ := id G
  refine k_aloadN X0 d_prog_28_4_0 rfl rfl (pc' := 1) rfl ?_
  refine k_getF X0 d_prog_28_4_1 (host := "") (Or.inl (w_131 hw)) Via.refl q5 (pc' := 4) rfl fun T671 X672 => ?_
  refine k_ifnonnullNo X672 d_prog_28_4_4 (pc' := 7) rfl ?_
  refine k_aloadN X672 d_prog_28_4_7 rfl rfl (pc' := 8) rfl ?_
  refine k_getF X672 d_prog_28_4_8 (host := "") (Or.inl (w_73 hw)) Via.refl q4 (pc' := 11) rfl fun T673 X674 => ?_
  refine k_ifNo X674 d_prog_28_4_11 (by decide) (pc' := 14) rfl ?_
  refine k_aloadN X674 d_prog_28_4_14 rfl rfl (pc' := 15) rfl ?_
  refine k_aloadN X674 d_prog_28_4_15 rfl rfl (pc' := 16) rfl ?_
  refine k_getF X674 d_prog_28_4_16 (host := "") (Or.inl (w_61 hw)) Via.refl q1 (pc' := 19) rfl fun T675 X676 => ?_
  refine k_aloadN X676 d_prog_28_4_19 rfl rfl (pc' := 20) rfl ?_
  refine k_getF X676 d_prog_28_4_20 (host := "") (Or.inl (w_66 hw)) Via.refl q3 (pc' := 23) rfl fun T677 X678 => ?_
  refine k_aloadN X678 d_prog_28_4_23 rfl rfl (pc' := 24) rfl ?_
  refine k_getF X678 d_prog_28_4_24 (host := "") (Or.inl (w_73 hw)) Via.refl q4 (pc' := 27) rfl fun T679 X680 => ?_
  refine k_iconst X680 d_prog_28_4_27 (w := (1 : Int32)) rfl (pc' := 28) rfl ?_
  refine k_isub X680 d_prog_28_4_28 (w := (0 : Int32)) (by decide) (pc' := 29) rfl ?_
  refine k_iaload X680 d_prog_28_4_29 q11 (by decide) (by decide) (v := (.int (0 : Int32))) rfl (pc' := 30) rfl ?_
  refine k_callVVH X680 (y := (⟨"java/lang/StringBuilder", "substring", "(I)Ljava/lang/String;"⟩ : MethodName)) d_prog_28_4_30 (w_171 hw) (w_172 hw) (w_174 hw) (w_173 hw) (w_45 hw) (w_175 hw) (by decide) (notFace_of_selects (args := #[]) (mvT X680.hZ (w_174 hw))) q6 (argsL := [(.int (0 : Int32))]) (rest := [(.ref o)]) (own_sbT1 l Z a0 hw G n0 h0 X680.old sb bv kb B n nv hnv hn hBl o q6 q7 q8 q9 q10 q0) rfl pd_23 rfl rfl (by decide) (W := 1) (Nat.le_of_eq rfl) (by decide) (by decide) (by decide) all0 (pc' := 33) rfl ?_
  rintro _ v684 T684 h684 L684 X684 K684 C684 ⟨r_681, t9_682, kt9_683, rfl, q684_0, q684_1, q684_2, q684_3, q684_4⟩
  have sz_h684 := K684.1
  have K0_h684 : Keep h0 h684 [o] := K0_h0.trans K684 all0
  have lt684_0 := own_n q684_0.lt
  have lt684_1 := own_n q684_1.lt
  have lt684_2 := own_n q684_2.lt
  have lt684_3 := own_n q684_3.lt
  have c686 := (q5.keep K684 nin0)
  have c687 := (q0.keep K684)
  have c688 := (C684.safe (own_n (by omega)) sf_0)
  have ge690 : n0 ≤ o := by omega
  refine k_putF X684 d_prog_28_4_33 (host := "") (Or.inl (w_131 hw)) Via.refl c686 c687 (Or.inl (w_132 hw)) (w_37 hw) (ty := (.object "java/lang/String")) (by decide) rfl rfl c688 ge690 (pc' := 36) rfl fun T689 h689 L689 X689 W689 K689 => ?_
  have sz_h689 := K689.1
  have K0_h689 : Keep h0 h689 [o] := K0_h684.trans K689 (allS (Or.inl (List.mem_of_getElem? (i := 0) rfl)) all0)
  have F689 := c686.same W689
  refine k_aloadN X689 d_prog_28_4_36 rfl rfl (pc' := 37) rfl ?_
  refine k_getF X689 d_prog_28_4_37 (host := "") (Or.inl (w_131 hw)) Via.refl F689 (pc' := 40) rfl fun T691 X692 => ?_
  have c693 := (c687.keep K689)
  have c694 := ((q1.keep K684 nin0).other W689 (Or.inr (slot_ne (Or.inr (w_62 hw)) (Or.inl (w_132 hw)) (by decide) (t := (.object "java/lang/StringBuilder")) (t' := (.object "java/lang/String")) (by decide) (by decide))))
  have c695 := ((q2.keep K684 nin0).other W689 (Or.inr (slot_ne (Or.inl (w_65 hw)) (Or.inl (w_132 hw)) (by decide) (t := (.array .int)) (t' := (.object "java/lang/String")) (by decide) (by decide))))
  have c696 := ((q3.keep K684 nin0).other W689 (Or.inr (slot_ne (Or.inl (w_67 hw)) (Or.inl (w_132 hw)) (by decide) (t := (.array .int)) (t' := (.object "java/lang/String")) (by decide) (by decide))))
  have c697 := ((q4.keep K684 nin0).other W689 (Or.inr (slot_ne (Or.inl (w_74 hw)) (Or.inl (w_132 hw)) (by decide) (t := .int) (t' := (.object "java/lang/String")) (by decide) (by decide))))
  have c698 := (q684_0.keep K689)
  have c699 := (q684_1.keep K689 (ninS (fun z => q684_4.1 z.symm) nin0))
  have c700 := (q684_2.keep K689 (ninS (fun z => q684_4.1 z.symm) nin0))
  have c701 := (q684_3.keep K689 (ninS (fun z => q684_4.2 z.symm) nin0))
  exact k_retHA X692 d_prog_28_4_40 rfl rfl rfl rfl K0_h689 (fun v' C' => ⟨_, rfl, _, _, _, rfl, c693, c694, c695, c696, c697, F689, c698, c699, c700, c701⟩) (by decide) (by decide)
set_option maxRecDepth 65536 in
set_option maxHeartbeats 40000000 in
theorem own_oiL (l : Launch) (Z : State) (a0 : Array Value) (hw : ∀ d ∈ tables_1, d.before a0 Z = true) {zc : Int32} {fm : Value}  (G : Gl Z zc fm) (n0 : Nat) (h0 : Heap) (O0 : Old Z n0 h0) (o : Nat) (sb : Nat) (nv : Int32)  (q0 : Fld Z h0 o "com/example/colophon/colophon/OpenIds" "characters" "Ljava/lang/StringBuilder;" (.ref sb)) (q1 : Exa Z h0 sb "java/lang/StringBuilder") (q2 : Fld Z h0 sb "java/lang/AbstractStringBuilder" "count" "I" (.int nv)) :
    MetF l [] Z n0 (⟨"com/example/colophon/colophon/OpenIds", "length", "()I"⟩ : MethodName) prog_28_method_5_code 1 (Option.some FieldType.int) ({ frames := 2, cells := 0, slots := 0, locals := 24 } : Room) #[(.ref o)] h0 [] (fun r h' => ∃ w, r = some w ∧ w = (.int nv) ∧ True) := by
  refine metF (plainFor_of_name pn_9) O0 (Ls := #[.val (.ref o)]) (fun m => by first | (simp [entryFrame, mkF, argsToLocals, Value.category]; done) | rfl) ?_
  intro p e s m below meth c T0 X0
  have K0_h0 := Keep.refl h0 []
  have n0le := X0.n0le
  have ltq0 := own_n q0.lt
  have ltq1 := own_n q1.lt
  have ltq2 := own_n q2.lt
  obtain ⟨G_cs, G_zc, G_fm, isref_fm⟩ := id G
  refine k_aloadN X0 d_prog_28_5_0 rfl rfl (pc' := 1) rfl ?_
  refine k_getF X0 d_prog_28_5_1 (host := "") (Or.inl (w_61 hw)) Via.refl q0 (pc' := 4) rfl fun T702 X703 => ?_
  refine k_callVVF X703 (y := (⟨"java/lang/StringBuilder", "length", "()I"⟩ : MethodName)) d_prog_28_5_4 (w_75 hw) (w_76 hw) (w_78 hw) (w_77 hw) (w_45 hw) (w_79 hw) (by decide) (notFace_of_selects (args := #[]) (mvT X703.hZ (w_78 hw))) q1 (argsL := []) (rest := []) (own_sbL l Z a0 hw G n0 h0 X703.old sb nv q1 q2) rfl pd_10 rfl rfl (by decide) (W := 0) (Nat.le_of_eq rfl) (by decide) (by decide) (by decide) all0 (pc' := 7) rfl ?_
  rintro _ T704 h704 L704 X704 K704 ⟨rfl, -⟩
  have sz_h704 := K704.1
  have K0_h704 : Keep h0 h704 [] := K0_h0.trans K704 all0
  exact k_retFI X704 d_prog_28_5_7 rfl K0_h704 ⟨_, rfl, rfl, trivial⟩ (by decide) (by decide)
set_option maxRecDepth 65536 in
set_option maxHeartbeats 40000000 in
theorem own_sameN (l : Launch) (Z : State) (a0 : Array Value) (hw : ∀ d ∈ tables_1, d.before a0 Z = true) {zc : Int32} {fm : Value}  (G : Gl Z zc fm) (n0 : Nat) (h0 : Heap) (O0 : Old Z n0 h0)    :
    MetF l [] Z n0 (⟨"com/example/colophon/colophon/OpenIdsEndElementPinLaw", "same", "(Ljava/lang/String;Ljava/lang/String;)Z"⟩ : MethodName) method_4_code 2 (Option.some FieldType.boolean) ({ frames := 0, cells := 0, slots := 0, locals := 0 } : Room) #[.null, .null] h0 [] (fun r h' => ∃ w, r = some w ∧ w = (.int (1 : Int32)) ∧ True) := by
  refine metF (plainFor_of_name pn_8) O0 (Ls := #[.val .null, .val .null]) (fun m => by first | (simp [entryFrame, mkF, argsToLocals, Value.category]; done) | rfl) ?_
  intro p e s m below meth c T0 X0
  have K0_h0 := Keep.refl h0 []
  have n0le := X0.n0le
  obtain ⟨G_cs, G_zc, G_fm, isref_fm⟩ := id G
  refine k_aloadN X0 d_4_0 rfl rfl (pc' := 1) rfl ?_
  refine k_ifnonnullNo X0 d_4_1 (pc' := 4) rfl ?_
  refine k_aloadN X0 d_4_4 rfl rfl (pc' := 5) rfl ?_
  refine k_ifnonnullNo X0 d_4_5 (pc' := 8) rfl ?_
  refine k_iconst X0 d_4_8 (w := (1 : Int32)) rfl (pc' := 9) rfl ?_
  refine k_goto X0 d_4_9 (pc' := 13) (by decide) (by decide) ?_
  exact k_retFN X0 (w := (1 : Int32)) d_4_13 (t := .boolean) rfl (by simp) rfl K0_h0 ⟨_, rfl, rfl, trivial⟩ (by decide) (by decide)
set_option maxRecDepth 65536 in
set_option maxHeartbeats 40000000 in
theorem own_same (l : Launch) (Z : State) (a0 : Array Value) (hw : ∀ d ∈ tables_1, d.before a0 Z = true) {zc : Int32} {fm : Value}  (G : Gl Z zc fm) (n0 : Nat) (h0 : Heap) (O0 : Old Z n0 h0) (a : Nat) (b : Nat) (cs : List Int32) (t : Nat) (kt : ClassId) (t2 : Nat) (kt2 : ClassId) (hl1 : own_l1 cs) (hcl : cs.length ≤ 6)  (q0 : Exa Z h0 a "java/lang/String") (q1 : Fld Z h0 a "java/lang/String" "value" "[B" (.ref t)) (q2 : Fld Z h0 a "java/lang/String" "coder" "B" (.int (0 : Int32))) (q3 : Arv Z h0 t kt .byte (Int32.ofNat cs.length) (own_lat cs) (.int (0 : Int32))) (q4 : Exa Z h0 b "java/lang/String") (q5 : Fld Z h0 b "java/lang/String" "value" "[B" (.ref t2)) (q6 : Fld Z h0 b "java/lang/String" "coder" "B" (.int (0 : Int32))) (q7 : Arv Z h0 t2 kt2 .byte (Int32.ofNat cs.length) (own_lat cs) (.int (0 : Int32))) :
    MetF l [] Z n0 (⟨"com/example/colophon/colophon/OpenIdsEndElementPinLaw", "same", "(Ljava/lang/String;Ljava/lang/String;)Z"⟩ : MethodName) method_4_code 2 (Option.some FieldType.boolean) ({ frames := 2, cells := 0, slots := 0, locals := 28 } : Room) #[(.ref a), (.ref b)] h0 [] (fun r h' => ∃ w, r = some w ∧ w = (.int (1 : Int32)) ∧ True) := by
  refine metF (plainFor_of_name pn_8) O0 (Ls := #[.val (.ref a), .val (.ref b)]) (fun m => by first | (simp [entryFrame, mkF, argsToLocals, Value.category]; done) | rfl) ?_
  intro p e s m below meth c T0 X0
  have K0_h0 := Keep.refl h0 []
  have n0le := X0.n0le
  have ltq0 := own_n q0.lt
  have ltq1 := own_n q1.lt
  have ltq2 := own_n q2.lt
  have ltq3 := own_n q3.lt
  have ltq4 := own_n q4.lt
  have ltq5 := own_n q5.lt
  have ltq6 := own_n q6.lt
  have ltq7 := own_n q7.lt
  obtain ⟨G_cs, G_zc, G_fm, isref_fm⟩ := id G
  have hcd706 := own_codOfL hl1
  refine k_aloadN X0 d_4_0 rfl rfl (pc' := 1) rfl ?_
  refine k_ifnonnullYes X0 d_4_1 (pc' := 14) (by decide) (by decide) ?_
  refine k_aloadN X0 d_4_14 rfl rfl (pc' := 15) rfl ?_
  refine k_ifnullNo X0 d_4_15 (pc' := 18) rfl ?_
  refine k_aloadN X0 d_4_18 rfl rfl (pc' := 19) rfl ?_
  refine k_aloadN X0 d_4_19 rfl rfl (pc' := 20) rfl ?_
  refine k_callVVF X0 (y := (⟨"java/lang/String", "equals", "(Ljava/lang/Object;)Z"⟩ : MethodName)) d_4_20 (w_149 hw) (w_150 hw) (w_152 hw) (w_151 hw) (w_6 hw) (w_153 hw) (by decide) (notFace_of_selects (args := #[]) (mvT X0.hZ (w_152 hw))) q0 (argsL := [(.ref b)]) (rest := []) (own_eq l Z a0 hw G n0 h0 X0.old a b t kt (0 : Int32) (Int32.ofNat cs.length) (own_lat cs) cs t2 kt2 (0 : Int32) (Int32.ofNat cs.length) (own_lat cs) cs (by omega) (by omega) (own_l1_chs hl1) (own_l1_chs hl1) q0 q1 q2 q3 hcd706 q4 q5 q6 q7 hcd706) rfl pd_24 rfl rfl (by decide) (W := 0) (Nat.le_of_eq rfl) (by decide) (by decide) (by decide) all0 (pc' := 23) rfl ?_
  rintro _ T707 h707 L707 X707 K707 ⟨rfl, -⟩
  have sz_h707 := K707.1
  have K0_h707 : Keep h0 h707 [] := K0_h0.trans K707 all0
  rw [own_eqv_self]
  refine k_ifNo X707 d_4_23 (by decide) (pc' := 26) rfl ?_
  refine k_iconst X707 d_4_26 (w := (1 : Int32)) rfl (pc' := 27) rfl ?_
  refine k_goto X707 d_4_27 (pc' := 31) (by decide) (by decide) ?_
  exact k_retFN X707 (w := (1 : Int32)) d_4_31 (t := .boolean) rfl (by simp) rfl K0_h707 ⟨_, rfl, rfl, trivial⟩ (by decide) (by decide)
set_option maxRecDepth 65536 in
set_option maxHeartbeats 40000000 in
theorem own_stt0n (l : Launch) (Z : State) (a0 : Array Value) (hw : ∀ d ∈ tables_1, d.before a0 Z = true) {zc : Int32} {fm : Value}  (G : Gl Z zc fm) (n0 : Nat) (h0 : Heap) (O0 : Old Z n0 h0) (o : Nat) (i1 : Nat) (l1 : Int32) (l2 : Int32) (sb : Nat)  (q0 : Exa Z h0 o "com/example/colophon/colophon/OpenIds") (q1 : Fld Z h0 o "com/example/colophon/colophon/OpenIds" "innermost" "Ljava/lang/String;" .null) (q2 : Fld Z h0 o "com/example/colophon/colophon/OpenIds" "count" "I" (.int (0 : Int32))) (q3 : Fld Z h0 o "com/example/colophon/colophon/OpenIds" "characters" "Ljava/lang/StringBuilder;" (.ref sb)) (q4 : Exa Z h0 sb "java/lang/StringBuilder") (q5 : Fld Z h0 sb "java/lang/AbstractStringBuilder" "count" "I" (.int (0 : Int32))) :
    MetF l [] Z n0 (⟨"com/example/colophon/colophon/OpenIdsEndElementPinLaw", "state", "(Lcom/example/colophon/colophon/OpenIds;ILjava/lang/String;Ljava/lang/String;II)Z"⟩ : MethodName) method_3_code 9 (Option.some FieldType.boolean) ({ frames := 3, cells := 0, slots := 0, locals := 36 } : Room) #[(.ref o), (.int (0 : Int32)), (.ref i1), .null, (.int l1), (.int l2)] h0 [] (fun r h' => ∃ w, r = some w ∧ w = (.int (1 : Int32)) ∧ True) := by
  refine metF (plainFor_of_name pn_8) O0 (Ls := #[.val (.ref o), .val (.int (0 : Int32)), .val (.ref i1), .val .null, .val (.int l1), .val (.int l2), .unset, .unset, .unset]) (fun m => by first | (simp [entryFrame, mkF, argsToLocals, Value.category]; done) | rfl) ?_
  intro p e s m below meth c T0 X0
  have K0_h0 := Keep.refl h0 []
  have n0le := X0.n0le
  have ltq0 := own_n q0.lt
  have ltq1 := own_n q1.lt
  have ltq2 := own_n q2.lt
  have ltq3 := own_n q3.lt
  have ltq4 := own_n q4.lt
  have ltq5 := own_n q5.lt
  obtain ⟨G_cs, G_zc, G_fm, isref_fm⟩ := id G
  refine k_iloadN X0 d_3_0 rfl (pc' := 1) rfl ?_
  refine k_ifNo X0 d_3_1 (by decide) (pc' := 4) rfl ?_
  refine k_aconstNull X0 d_3_4 (pc' := 5) rfl ?_
  refine k_goto X0 d_3_5 (pc' := 18) (by decide) (by decide) ?_
  refine k_astore X0 d_3_18 rfl (Ls' := #[.val (.ref o), .val (.int (0 : Int32)), .val (.ref i1), .val .null, .val (.int l1), .val (.int l2), .val .null, .unset, .unset]) rfl (pc' := 20) rfl ?_
  refine k_iloadN X0 d_3_20 rfl (pc' := 21) rfl ?_
  refine k_ifNo X0 d_3_21 (by decide) (pc' := 24) rfl ?_
  refine k_iconst X0 d_3_24 (w := (0 : Int32)) rfl (pc' := 25) rfl ?_
  refine k_goto X0 d_3_25 (pc' := 43) (by decide) (by decide) ?_
  refine k_istore X0 d_3_43 (Ls' := #[.val (.ref o), .val (.int (0 : Int32)), .val (.ref i1), .val .null, .val (.int l1), .val (.int l2), .val .null, .val (.int (0 : Int32)), .unset]) rfl (pc' := 45) rfl ?_
  refine k_aloadN X0 d_3_45 rfl rfl (pc' := 46) rfl ?_
  refine k_callVVF X0 (y := (⟨"com/example/colophon/colophon/OpenIds", "innermost", "()Ljava/lang/String;"⟩ : MethodName)) d_3_46 (w_141 hw) (w_142 hw) (w_144 hw) (w_143 hw) (w_38 hw) (w_145 hw) (by decide) (notFace_of_selects (args := #[]) (mvT X0.hZ (w_144 hw))) q0 (argsL := []) (rest := []) (own_inN l Z a0 hw G n0 h0 X0.old o q1 q2) rfl pd_25 rfl rfl (by decide) (W := 0) (Nat.le_of_eq rfl) (by decide) (by decide) (by decide) all0 (pc' := 49) rfl ?_
  rintro _ T709 h709 L709 X709 K709 ⟨rfl, -⟩
  have sz_h709 := K709.1
  have K0_h709 : Keep h0 h709 [] := K0_h0.trans K709 all0
  refine k_astore X709 d_3_49 rfl (Ls' := #[.val (.ref o), .val (.int (0 : Int32)), .val (.ref i1), .val .null, .val (.int l1), .val (.int l2), .val .null, .val (.int (0 : Int32)), .val .null]) rfl (pc' := 51) rfl ?_
  refine k_aload X709 d_3_51 rfl rfl (pc' := 53) rfl ?_
  refine k_aload X709 d_3_53 rfl rfl (pc' := 55) rfl ?_
  refine k_callSVF X709 (y := (⟨"com/example/colophon/colophon/OpenIdsEndElementPinLaw", "same", "(Ljava/lang/String;Ljava/lang/String;)Z"⟩ : MethodName)) d_3_55 (w_146 hw) (w_147 hw) (w_2 hw) (w_148 hw) (by decide) (argsL := [.null, .null]) (rest := []) (own_sameN l Z a0 hw G n0 h709 X709.old  ) rfl pd_26 rfl rfl (by decide) (W := 0) (Nat.le_of_eq rfl) (by decide) (by decide) (by decide) all0 (pc' := 58) rfl ?_
  rintro _ T711 h711 L711 X711 K711 ⟨rfl, -⟩
  have sz_h711 := K711.1
  have K0_h711 : Keep h0 h711 [] := K0_h709.trans K711 all0
  refine k_ifNo X711 d_3_58 (by decide) (pc' := 61) rfl ?_
  refine k_aloadN X711 d_3_61 rfl rfl (pc' := 62) rfl ?_
  have c713 := ((q3.keep K709 nin0).keep K711 nin0)
  have c714 := ((q4.keep K709).keep K711)
  have c715 := ((q5.keep K709 nin0).keep K711 nin0)
  have c716 := ((q0.keep K709).keep K711)
  refine k_callVVF X711 (y := (⟨"com/example/colophon/colophon/OpenIds", "length", "()I"⟩ : MethodName)) d_3_62 (w_154 hw) (w_155 hw) (w_157 hw) (w_156 hw) (w_38 hw) (w_158 hw) (by decide) (notFace_of_selects (args := #[]) (mvT X711.hZ (w_157 hw))) c716 (argsL := []) (rest := []) (own_oiL l Z a0 hw G n0 h711 X711.old o sb (0 : Int32) c713 c714 c715) rfl pd_10 rfl rfl (by decide) (W := 0) (Nat.le_of_eq rfl) (by decide) (by decide) (by decide) all0 (pc' := 65) rfl ?_
  rintro _ T717 h717 L717 X717 K717 ⟨rfl, -⟩
  have sz_h717 := K717.1
  have K0_h717 : Keep h0 h717 [] := K0_h711.trans K717 all0
  refine k_iload X717 d_3_65 rfl (pc' := 67) rfl ?_
  refine k_icmpNo X717 d_3_67 (by decide) (pc' := 70) rfl ?_
  refine k_iconst X717 d_3_70 (w := (1 : Int32)) rfl (pc' := 71) rfl ?_
  refine k_goto X717 d_3_71 (pc' := 75) (by decide) (by decide) ?_
  exact k_retFN X717 (w := (1 : Int32)) d_3_75 (t := .boolean) rfl (by simp) rfl K0_h717 ⟨_, rfl, rfl, trivial⟩ (by decide) (by decide)
set_option maxRecDepth 65536 in
set_option maxHeartbeats 40000000 in
theorem own_stt1n (l : Launch) (Z : State) (a0 : Array Value) (hw : ∀ d ∈ tables_1, d.before a0 Z = true) {zc : Int32} {fm : Value}  (G : Gl Z zc fm) (n0 : Nat) (h0 : Heap) (O0 : Old Z n0 h0) (o : Nat) (i1 : Nat) (l1 : Int32) (l2 : Int32) (sb : Nat) (z : Nat) (nv : Int32) (cs : List Int32) (t : Nat) (kt : ClassId) (t2 : Nat) (kt2 : ClassId) (hl1 : own_l1 cs) (hcl : cs.length ≤ 6) (hnv : nv = l1)  (q0 : Exa Z h0 o "com/example/colophon/colophon/OpenIds") (q1 : Fld Z h0 o "com/example/colophon/colophon/OpenIds" "innermost" "Ljava/lang/String;" (.ref z)) (q2 : Fld Z h0 o "com/example/colophon/colophon/OpenIds" "characters" "Ljava/lang/StringBuilder;" (.ref sb)) (q3 : Exa Z h0 sb "java/lang/StringBuilder") (q4 : Fld Z h0 sb "java/lang/AbstractStringBuilder" "count" "I" (.int nv)) (q5 : Exa Z h0 i1 "java/lang/String") (q6 : Fld Z h0 i1 "java/lang/String" "value" "[B" (.ref t)) (q7 : Fld Z h0 i1 "java/lang/String" "coder" "B" (.int (0 : Int32))) (q8 : Arv Z h0 t kt .byte (Int32.ofNat cs.length) (own_lat cs) (.int (0 : Int32))) (q9 : Exa Z h0 z "java/lang/String") (q10 : Fld Z h0 z "java/lang/String" "value" "[B" (.ref t2)) (q11 : Fld Z h0 z "java/lang/String" "coder" "B" (.int (0 : Int32))) (q12 : Arv Z h0 t2 kt2 .byte (Int32.ofNat cs.length) (own_lat cs) (.int (0 : Int32))) :
    MetF l [] Z n0 (⟨"com/example/colophon/colophon/OpenIdsEndElementPinLaw", "state", "(Lcom/example/colophon/colophon/OpenIds;ILjava/lang/String;Ljava/lang/String;II)Z"⟩ : MethodName) method_3_code 9 (Option.some FieldType.boolean) ({ frames := 3, cells := 0, slots := 0, locals := 41 } : Room) #[(.ref o), (.int (1 : Int32)), (.ref i1), .null, (.int l1), (.int l2)] h0 [] (fun r h' => ∃ w, r = some w ∧ w = (.int (1 : Int32)) ∧ True) := by
  refine metF (plainFor_of_name pn_8) O0 (Ls := #[.val (.ref o), .val (.int (1 : Int32)), .val (.ref i1), .val .null, .val (.int l1), .val (.int l2), .unset, .unset, .unset]) (fun m => by first | (simp [entryFrame, mkF, argsToLocals, Value.category]; done) | rfl) ?_
  intro p e s m below meth c T0 X0
  have K0_h0 := Keep.refl h0 []
  have n0le := X0.n0le
  have ltq0 := own_n q0.lt
  have ltq1 := own_n q1.lt
  have ltq2 := own_n q2.lt
  have ltq3 := own_n q3.lt
  have ltq4 := own_n q4.lt
  have ltq5 := own_n q5.lt
  have ltq6 := own_n q6.lt
  have ltq7 := own_n q7.lt
  have ltq8 := own_n q8.lt
  have ltq9 := own_n q9.lt
  have ltq10 := own_n q10.lt
  have ltq11 := own_n q11.lt
  have ltq12 := own_n q12.lt
  obtain ⟨G_cs, G_zc, G_fm, isref_fm⟩ := id G
  refine k_iloadN X0 d_3_0 rfl (pc' := 1) rfl ?_
  refine k_ifYes X0 d_3_1 (by decide) (pc' := 8) (by decide) (by decide) ?_
  refine k_iloadN X0 d_3_8 rfl (pc' := 9) rfl ?_
  refine k_iconst X0 d_3_9 (w := (1 : Int32)) rfl (pc' := 10) rfl ?_
  refine k_icmpNo X0 d_3_10 (by decide) (pc' := 13) rfl ?_
  refine k_aloadN X0 d_3_13 rfl rfl (pc' := 14) rfl ?_
  refine k_goto X0 d_3_14 (pc' := 18) (by decide) (by decide) ?_
  refine k_astore X0 d_3_18 rfl (Ls' := #[.val (.ref o), .val (.int (1 : Int32)), .val (.ref i1), .val .null, .val (.int l1), .val (.int l2), .val (.ref i1), .unset, .unset]) rfl (pc' := 20) rfl ?_
  refine k_iloadN X0 d_3_20 rfl (pc' := 21) rfl ?_
  refine k_ifYes X0 d_3_21 (by decide) (pc' := 28) (by decide) (by decide) ?_
  refine k_iloadN X0 d_3_28 rfl (pc' := 29) rfl ?_
  refine k_iconst X0 d_3_29 (w := (1 : Int32)) rfl (pc' := 30) rfl ?_
  refine k_icmpNo X0 d_3_30 (by decide) (pc' := 33) rfl ?_
  refine k_iload X0 d_3_33 rfl (pc' := 35) rfl ?_
  refine k_goto X0 d_3_35 (pc' := 43) (by decide) (by decide) ?_
  refine k_istore X0 d_3_43 (Ls' := #[.val (.ref o), .val (.int (1 : Int32)), .val (.ref i1), .val .null, .val (.int l1), .val (.int l2), .val (.ref i1), .val (.int l1), .unset]) rfl (pc' := 45) rfl ?_
  refine k_aloadN X0 d_3_45 rfl rfl (pc' := 46) rfl ?_
  refine k_callVVF X0 (y := (⟨"com/example/colophon/colophon/OpenIds", "innermost", "()Ljava/lang/String;"⟩ : MethodName)) d_3_46 (w_141 hw) (w_142 hw) (w_144 hw) (w_143 hw) (w_38 hw) (w_145 hw) (by decide) (notFace_of_selects (args := #[]) (mvT X0.hZ (w_144 hw))) q0 (argsL := []) (rest := []) (own_inR l Z a0 hw G n0 h0 X0.old o z q1) rfl pd_25 rfl rfl (by decide) (W := 0) (Nat.le_of_eq rfl) (by decide) (by decide) (by decide) all0 (pc' := 49) rfl ?_
  rintro _ T719 h719 L719 X719 K719 ⟨rfl, -⟩
  have sz_h719 := K719.1
  have K0_h719 : Keep h0 h719 [] := K0_h0.trans K719 all0
  refine k_astore X719 d_3_49 rfl (Ls' := #[.val (.ref o), .val (.int (1 : Int32)), .val (.ref i1), .val .null, .val (.int l1), .val (.int l2), .val (.ref i1), .val (.int l1), .val (.ref z)]) rfl (pc' := 51) rfl ?_
  refine k_aload X719 d_3_51 rfl rfl (pc' := 53) rfl ?_
  refine k_aload X719 d_3_53 rfl rfl (pc' := 55) rfl ?_
  have c721 := (q9.keep K719)
  have c722 := (q10.keep K719 nin0)
  have c723 := (q11.keep K719 nin0)
  have c724 := (q12.keep K719 nin0)
  have c725 := (q5.keep K719)
  have c726 := (q6.keep K719 nin0)
  have c727 := (q7.keep K719 nin0)
  have c728 := (q8.keep K719 nin0)
  refine k_callSVF X719 (y := (⟨"com/example/colophon/colophon/OpenIdsEndElementPinLaw", "same", "(Ljava/lang/String;Ljava/lang/String;)Z"⟩ : MethodName)) d_3_55 (w_146 hw) (w_147 hw) (w_2 hw) (w_148 hw) (by decide) (argsL := [(.ref z), (.ref i1)]) (rest := []) (own_same l Z a0 hw G n0 h719 X719.old z i1 cs t2 kt2 t kt hl1 hcl c721 c722 c723 c724 c725 c726 c727 c728) rfl pd_26 rfl rfl (by decide) (W := 0) (Nat.le_of_eq rfl) (by decide) (by decide) (by decide) all0 (pc' := 58) rfl ?_
  rintro _ T729 h729 L729 X729 K729 ⟨rfl, -⟩
  have sz_h729 := K729.1
  have K0_h729 : Keep h0 h729 [] := K0_h719.trans K729 all0
  refine k_ifNo X729 d_3_58 (by decide) (pc' := 61) rfl ?_
  refine k_aloadN X729 d_3_61 rfl rfl (pc' := 62) rfl ?_
  have c731 := ((q2.keep K719 nin0).keep K729 nin0)
  have c732 := ((q3.keep K719).keep K729)
  have c733 := ((q4.keep K719 nin0).keep K729 nin0)
  have c734 := ((q0.keep K719).keep K729)
  refine k_callVVF X729 (y := (⟨"com/example/colophon/colophon/OpenIds", "length", "()I"⟩ : MethodName)) d_3_62 (w_154 hw) (w_155 hw) (w_157 hw) (w_156 hw) (w_38 hw) (w_158 hw) (by decide) (notFace_of_selects (args := #[]) (mvT X729.hZ (w_157 hw))) c734 (argsL := []) (rest := []) (own_oiL l Z a0 hw G n0 h729 X729.old o sb nv c731 c732 c733) rfl pd_10 rfl rfl (by decide) (W := 0) (Nat.le_of_eq rfl) (by decide) (by decide) (by decide) all0 (pc' := 65) rfl ?_
  rintro _ T735 h735 L735 X735 K735 ⟨rfl, -⟩
  have sz_h735 := K735.1
  have K0_h735 : Keep h0 h735 [] := K0_h729.trans K735 all0
  refine k_iload X735 d_3_65 rfl (pc' := 67) rfl ?_
  refine k_icmpNo X735 d_3_67 (teq hnv).2 (pc' := 70) rfl ?_
  refine k_iconst X735 d_3_70 (w := (1 : Int32)) rfl (pc' := 71) rfl ?_
  refine k_goto X735 d_3_71 (pc' := 75) (by decide) (by decide) ?_
  exact k_retFN X735 (w := (1 : Int32)) d_3_75 (t := .boolean) rfl (by simp) rfl K0_h735 ⟨_, rfl, rfl, trivial⟩ (by decide) (by decide)
set_option maxRecDepth 65536 in
set_option maxHeartbeats 40000000 in
theorem own_stt0r (l : Launch) (Z : State) (a0 : Array Value) (hw : ∀ d ∈ tables_1, d.before a0 Z = true) {zc : Int32} {fm : Value}  (G : Gl Z zc fm) (n0 : Nat) (h0 : Heap) (O0 : Old Z n0 h0) (o : Nat) (i1 : Nat) (l1 : Int32) (l2 : Int32) (i2 : Nat) (sb : Nat)  (q0 : Exa Z h0 o "com/example/colophon/colophon/OpenIds") (q1 : Fld Z h0 o "com/example/colophon/colophon/OpenIds" "innermost" "Ljava/lang/String;" .null) (q2 : Fld Z h0 o "com/example/colophon/colophon/OpenIds" "count" "I" (.int (0 : Int32))) (q3 : Fld Z h0 o "com/example/colophon/colophon/OpenIds" "characters" "Ljava/lang/StringBuilder;" (.ref sb)) (q4 : Exa Z h0 sb "java/lang/StringBuilder") (q5 : Fld Z h0 sb "java/lang/AbstractStringBuilder" "count" "I" (.int (0 : Int32))) :
    MetF l [] Z n0 (⟨"com/example/colophon/colophon/OpenIdsEndElementPinLaw", "state", "(Lcom/example/colophon/colophon/OpenIds;ILjava/lang/String;Ljava/lang/String;II)Z"⟩ : MethodName) method_3_code 9 (Option.some FieldType.boolean) ({ frames := 3, cells := 0, slots := 0, locals := 36 } : Room) #[(.ref o), (.int (0 : Int32)), (.ref i1), (.ref i2), (.int l1), (.int l2)] h0 [] (fun r h' => ∃ w, r = some w ∧ w = (.int (1 : Int32)) ∧ True) := by
  refine metF (plainFor_of_name pn_8) O0 (Ls := #[.val (.ref o), .val (.int (0 : Int32)), .val (.ref i1), .val (.ref i2), .val (.int l1), .val (.int l2), .unset, .unset, .unset]) (fun m => by first | (simp [entryFrame, mkF, argsToLocals, Value.category]; done) | rfl) ?_
  intro p e s m below meth c T0 X0
  have K0_h0 := Keep.refl h0 []
  have n0le := X0.n0le
  have ltq0 := own_n q0.lt
  have ltq1 := own_n q1.lt
  have ltq2 := own_n q2.lt
  have ltq3 := own_n q3.lt
  have ltq4 := own_n q4.lt
  have ltq5 := own_n q5.lt
  obtain ⟨G_cs, G_zc, G_fm, isref_fm⟩ := id G
  refine k_iloadN X0 d_3_0 rfl (pc' := 1) rfl ?_
  refine k_ifNo X0 d_3_1 (by decide) (pc' := 4) rfl ?_
  refine k_aconstNull X0 d_3_4 (pc' := 5) rfl ?_
  refine k_goto X0 d_3_5 (pc' := 18) (by decide) (by decide) ?_
  refine k_astore X0 d_3_18 rfl (Ls' := #[.val (.ref o), .val (.int (0 : Int32)), .val (.ref i1), .val (.ref i2), .val (.int l1), .val (.int l2), .val .null, .unset, .unset]) rfl (pc' := 20) rfl ?_
  refine k_iloadN X0 d_3_20 rfl (pc' := 21) rfl ?_
  refine k_ifNo X0 d_3_21 (by decide) (pc' := 24) rfl ?_
  refine k_iconst X0 d_3_24 (w := (0 : Int32)) rfl (pc' := 25) rfl ?_
  refine k_goto X0 d_3_25 (pc' := 43) (by decide) (by decide) ?_
  refine k_istore X0 d_3_43 (Ls' := #[.val (.ref o), .val (.int (0 : Int32)), .val (.ref i1), .val (.ref i2), .val (.int l1), .val (.int l2), .val .null, .val (.int (0 : Int32)), .unset]) rfl (pc' := 45) rfl ?_
  refine k_aloadN X0 d_3_45 rfl rfl (pc' := 46) rfl ?_
  refine k_callVVF X0 (y := (⟨"com/example/colophon/colophon/OpenIds", "innermost", "()Ljava/lang/String;"⟩ : MethodName)) d_3_46 (w_141 hw) (w_142 hw) (w_144 hw) (w_143 hw) (w_38 hw) (w_145 hw) (by decide) (notFace_of_selects (args := #[]) (mvT X0.hZ (w_144 hw))) q0 (argsL := []) (rest := []) (own_inN l Z a0 hw G n0 h0 X0.old o q1 q2) rfl pd_25 rfl rfl (by decide) (W := 0) (Nat.le_of_eq rfl) (by decide) (by decide) (by decide) all0 (pc' := 49) rfl ?_
  rintro _ T737 h737 L737 X737 K737 ⟨rfl, -⟩
  have sz_h737 := K737.1
  have K0_h737 : Keep h0 h737 [] := K0_h0.trans K737 all0
  refine k_astore X737 d_3_49 rfl (Ls' := #[.val (.ref o), .val (.int (0 : Int32)), .val (.ref i1), .val (.ref i2), .val (.int l1), .val (.int l2), .val .null, .val (.int (0 : Int32)), .val .null]) rfl (pc' := 51) rfl ?_
  refine k_aload X737 d_3_51 rfl rfl (pc' := 53) rfl ?_
  refine k_aload X737 d_3_53 rfl rfl (pc' := 55) rfl ?_
  refine k_callSVF X737 (y := (⟨"com/example/colophon/colophon/OpenIdsEndElementPinLaw", "same", "(Ljava/lang/String;Ljava/lang/String;)Z"⟩ : MethodName)) d_3_55 (w_146 hw) (w_147 hw) (w_2 hw) (w_148 hw) (by decide) (argsL := [.null, .null]) (rest := []) (own_sameN l Z a0 hw G n0 h737 X737.old  ) rfl pd_26 rfl rfl (by decide) (W := 0) (Nat.le_of_eq rfl) (by decide) (by decide) (by decide) all0 (pc' := 58) rfl ?_
  rintro _ T739 h739 L739 X739 K739 ⟨rfl, -⟩
  have sz_h739 := K739.1
  have K0_h739 : Keep h0 h739 [] := K0_h737.trans K739 all0
  refine k_ifNo X739 d_3_58 (by decide) (pc' := 61) rfl ?_
  refine k_aloadN X739 d_3_61 rfl rfl (pc' := 62) rfl ?_
  have c741 := ((q3.keep K737 nin0).keep K739 nin0)
  have c742 := ((q4.keep K737).keep K739)
  have c743 := ((q5.keep K737 nin0).keep K739 nin0)
  have c744 := ((q0.keep K737).keep K739)
  refine k_callVVF X739 (y := (⟨"com/example/colophon/colophon/OpenIds", "length", "()I"⟩ : MethodName)) d_3_62 (w_154 hw) (w_155 hw) (w_157 hw) (w_156 hw) (w_38 hw) (w_158 hw) (by decide) (notFace_of_selects (args := #[]) (mvT X739.hZ (w_157 hw))) c744 (argsL := []) (rest := []) (own_oiL l Z a0 hw G n0 h739 X739.old o sb (0 : Int32) c741 c742 c743) rfl pd_10 rfl rfl (by decide) (W := 0) (Nat.le_of_eq rfl) (by decide) (by decide) (by decide) all0 (pc' := 65) rfl ?_
  rintro _ T745 h745 L745 X745 K745 ⟨rfl, -⟩
  have sz_h745 := K745.1
  have K0_h745 : Keep h0 h745 [] := K0_h739.trans K745 all0
  refine k_iload X745 d_3_65 rfl (pc' := 67) rfl ?_
  refine k_icmpNo X745 d_3_67 (by decide) (pc' := 70) rfl ?_
  refine k_iconst X745 d_3_70 (w := (1 : Int32)) rfl (pc' := 71) rfl ?_
  refine k_goto X745 d_3_71 (pc' := 75) (by decide) (by decide) ?_
  exact k_retFN X745 (w := (1 : Int32)) d_3_75 (t := .boolean) rfl (by simp) rfl K0_h745 ⟨_, rfl, rfl, trivial⟩ (by decide) (by decide)
set_option maxRecDepth 65536 in
set_option maxHeartbeats 40000000 in
theorem own_stt1r (l : Launch) (Z : State) (a0 : Array Value) (hw : ∀ d ∈ tables_1, d.before a0 Z = true) {zc : Int32} {fm : Value}  (G : Gl Z zc fm) (n0 : Nat) (h0 : Heap) (O0 : Old Z n0 h0) (o : Nat) (i1 : Nat) (l1 : Int32) (l2 : Int32) (i2 : Nat) (sb : Nat) (z : Nat) (nv : Int32) (cs : List Int32) (t : Nat) (kt : ClassId) (t2 : Nat) (kt2 : ClassId) (hl1 : own_l1 cs) (hcl : cs.length ≤ 6) (hnv : nv = l1)  (q0 : Exa Z h0 o "com/example/colophon/colophon/OpenIds") (q1 : Fld Z h0 o "com/example/colophon/colophon/OpenIds" "innermost" "Ljava/lang/String;" (.ref z)) (q2 : Fld Z h0 o "com/example/colophon/colophon/OpenIds" "characters" "Ljava/lang/StringBuilder;" (.ref sb)) (q3 : Exa Z h0 sb "java/lang/StringBuilder") (q4 : Fld Z h0 sb "java/lang/AbstractStringBuilder" "count" "I" (.int nv)) (q5 : Exa Z h0 i1 "java/lang/String") (q6 : Fld Z h0 i1 "java/lang/String" "value" "[B" (.ref t)) (q7 : Fld Z h0 i1 "java/lang/String" "coder" "B" (.int (0 : Int32))) (q8 : Arv Z h0 t kt .byte (Int32.ofNat cs.length) (own_lat cs) (.int (0 : Int32))) (q9 : Exa Z h0 z "java/lang/String") (q10 : Fld Z h0 z "java/lang/String" "value" "[B" (.ref t2)) (q11 : Fld Z h0 z "java/lang/String" "coder" "B" (.int (0 : Int32))) (q12 : Arv Z h0 t2 kt2 .byte (Int32.ofNat cs.length) (own_lat cs) (.int (0 : Int32))) :
    MetF l [] Z n0 (⟨"com/example/colophon/colophon/OpenIdsEndElementPinLaw", "state", "(Lcom/example/colophon/colophon/OpenIds;ILjava/lang/String;Ljava/lang/String;II)Z"⟩ : MethodName) method_3_code 9 (Option.some FieldType.boolean) ({ frames := 3, cells := 0, slots := 0, locals := 41 } : Room) #[(.ref o), (.int (1 : Int32)), (.ref i1), (.ref i2), (.int l1), (.int l2)] h0 [] (fun r h' => ∃ w, r = some w ∧ w = (.int (1 : Int32)) ∧ True) := by
  refine metF (plainFor_of_name pn_8) O0 (Ls := #[.val (.ref o), .val (.int (1 : Int32)), .val (.ref i1), .val (.ref i2), .val (.int l1), .val (.int l2), .unset, .unset, .unset]) (fun m => by first | (simp [entryFrame, mkF, argsToLocals, Value.category]; done) | rfl) ?_
  intro p e s m below meth c T0 X0
  have K0_h0 := Keep.refl h0 []
  have n0le := X0.n0le
  have ltq0 := own_n q0.lt
  have ltq1 := own_n q1.lt
  have ltq2 := own_n q2.lt
  have ltq3 := own_n q3.lt
  have ltq4 := own_n q4.lt
  have ltq5 := own_n q5.lt
  have ltq6 := own_n q6.lt
  have ltq7 := own_n q7.lt
  have ltq8 := own_n q8.lt
  have ltq9 := own_n q9.lt
  have ltq10 := own_n q10.lt
  have ltq11 := own_n q11.lt
  have ltq12 := own_n q12.lt
  obtain ⟨G_cs, G_zc, G_fm, isref_fm⟩ := id G
  refine k_iloadN X0 d_3_0 rfl (pc' := 1) rfl ?_
  refine k_ifYes X0 d_3_1 (by decide) (pc' := 8) (by decide) (by decide) ?_
  refine k_iloadN X0 d_3_8 rfl (pc' := 9) rfl ?_
  refine k_iconst X0 d_3_9 (w := (1 : Int32)) rfl (pc' := 10) rfl ?_
  refine k_icmpNo X0 d_3_10 (by decide) (pc' := 13) rfl ?_
  refine k_aloadN X0 d_3_13 rfl rfl (pc' := 14) rfl ?_
  refine k_goto X0 d_3_14 (pc' := 18) (by decide) (by decide) ?_
  refine k_astore X0 d_3_18 rfl (Ls' := #[.val (.ref o), .val (.int (1 : Int32)), .val (.ref i1), .val (.ref i2), .val (.int l1), .val (.int l2), .val (.ref i1), .unset, .unset]) rfl (pc' := 20) rfl ?_
  refine k_iloadN X0 d_3_20 rfl (pc' := 21) rfl ?_
  refine k_ifYes X0 d_3_21 (by decide) (pc' := 28) (by decide) (by decide) ?_
  refine k_iloadN X0 d_3_28 rfl (pc' := 29) rfl ?_
  refine k_iconst X0 d_3_29 (w := (1 : Int32)) rfl (pc' := 30) rfl ?_
  refine k_icmpNo X0 d_3_30 (by decide) (pc' := 33) rfl ?_
  refine k_iload X0 d_3_33 rfl (pc' := 35) rfl ?_
  refine k_goto X0 d_3_35 (pc' := 43) (by decide) (by decide) ?_
  refine k_istore X0 d_3_43 (Ls' := #[.val (.ref o), .val (.int (1 : Int32)), .val (.ref i1), .val (.ref i2), .val (.int l1), .val (.int l2), .val (.ref i1), .val (.int l1), .unset]) rfl (pc' := 45) rfl ?_
  refine k_aloadN X0 d_3_45 rfl rfl (pc' := 46) rfl ?_
  refine k_callVVF X0 (y := (⟨"com/example/colophon/colophon/OpenIds", "innermost", "()Ljava/lang/String;"⟩ : MethodName)) d_3_46 (w_141 hw) (w_142 hw) (w_144 hw) (w_143 hw) (w_38 hw) (w_145 hw) (by decide) (notFace_of_selects (args := #[]) (mvT X0.hZ (w_144 hw))) q0 (argsL := []) (rest := []) (own_inR l Z a0 hw G n0 h0 X0.old o z q1) rfl pd_25 rfl rfl (by decide) (W := 0) (Nat.le_of_eq rfl) (by decide) (by decide) (by decide) all0 (pc' := 49) rfl ?_
  rintro _ T747 h747 L747 X747 K747 ⟨rfl, -⟩
  have sz_h747 := K747.1
  have K0_h747 : Keep h0 h747 [] := K0_h0.trans K747 all0
  refine k_astore X747 d_3_49 rfl (Ls' := #[.val (.ref o), .val (.int (1 : Int32)), .val (.ref i1), .val (.ref i2), .val (.int l1), .val (.int l2), .val (.ref i1), .val (.int l1), .val (.ref z)]) rfl (pc' := 51) rfl ?_
  refine k_aload X747 d_3_51 rfl rfl (pc' := 53) rfl ?_
  refine k_aload X747 d_3_53 rfl rfl (pc' := 55) rfl ?_
  have c749 := (q9.keep K747)
  have c750 := (q10.keep K747 nin0)
  have c751 := (q11.keep K747 nin0)
  have c752 := (q12.keep K747 nin0)
  have c753 := (q5.keep K747)
  have c754 := (q6.keep K747 nin0)
  have c755 := (q7.keep K747 nin0)
  have c756 := (q8.keep K747 nin0)
  refine k_callSVF X747 (y := (⟨"com/example/colophon/colophon/OpenIdsEndElementPinLaw", "same", "(Ljava/lang/String;Ljava/lang/String;)Z"⟩ : MethodName)) d_3_55 (w_146 hw) (w_147 hw) (w_2 hw) (w_148 hw) (by decide) (argsL := [(.ref z), (.ref i1)]) (rest := []) (own_same l Z a0 hw G n0 h747 X747.old z i1 cs t2 kt2 t kt hl1 hcl c749 c750 c751 c752 c753 c754 c755 c756) rfl pd_26 rfl rfl (by decide) (W := 0) (Nat.le_of_eq rfl) (by decide) (by decide) (by decide) all0 (pc' := 58) rfl ?_
  rintro _ T757 h757 L757 X757 K757 ⟨rfl, -⟩
  have sz_h757 := K757.1
  have K0_h757 : Keep h0 h757 [] := K0_h747.trans K757 all0
  refine k_ifNo X757 d_3_58 (by decide) (pc' := 61) rfl ?_
  refine k_aloadN X757 d_3_61 rfl rfl (pc' := 62) rfl ?_
  have c759 := ((q2.keep K747 nin0).keep K757 nin0)
  have c760 := ((q3.keep K747).keep K757)
  have c761 := ((q4.keep K747 nin0).keep K757 nin0)
  have c762 := ((q0.keep K747).keep K757)
  refine k_callVVF X757 (y := (⟨"com/example/colophon/colophon/OpenIds", "length", "()I"⟩ : MethodName)) d_3_62 (w_154 hw) (w_155 hw) (w_157 hw) (w_156 hw) (w_38 hw) (w_158 hw) (by decide) (notFace_of_selects (args := #[]) (mvT X757.hZ (w_157 hw))) c762 (argsL := []) (rest := []) (own_oiL l Z a0 hw G n0 h757 X757.old o sb nv c759 c760 c761) rfl pd_10 rfl rfl (by decide) (W := 0) (Nat.le_of_eq rfl) (by decide) (by decide) (by decide) all0 (pc' := 65) rfl ?_
  rintro _ T763 h763 L763 X763 K763 ⟨rfl, -⟩
  have sz_h763 := K763.1
  have K0_h763 : Keep h0 h763 [] := K0_h757.trans K763 all0
  refine k_iload X763 d_3_65 rfl (pc' := 67) rfl ?_
  refine k_icmpNo X763 d_3_67 (teq hnv).2 (pc' := 70) rfl ?_
  refine k_iconst X763 d_3_70 (w := (1 : Int32)) rfl (pc' := 71) rfl ?_
  refine k_goto X763 d_3_71 (pc' := 75) (by decide) (by decide) ?_
  exact k_retFN X763 (w := (1 : Int32)) d_3_75 (t := .boolean) rfl (by simp) rfl K0_h763 ⟨_, rfl, rfl, trivial⟩ (by decide) (by decide)
set_option maxRecDepth 65536 in
set_option maxHeartbeats 40000000 in
theorem own_stt1s (l : Launch) (Z : State) (a0 : Array Value) (hw : ∀ d ∈ tables_1, d.before a0 Z = true) {zc : Int32} {fm : Value}  (G : Gl Z zc fm) (n0 : Nat) (h0 : Heap) (O0 : Old Z n0 h0) (o : Nat) (i1 : Nat) (l1 : Int32) (l2 : Int32) (i2 : Nat) (sb : Nat) (dp : Nat) (sp : Nat) (ks : ClassId) (bv : Nat) (kb : ClassId) (B : List Int32) (n : Nat) (nv : Int32) (hnv : nv = Int32.ofNat n) (hn : n ≤ 6) (hBl : B.length = 16) (hfar : own_far [o, sb, bv, dp, sp]) (y1 : Int32) (cs : List Int32) (t : Nat) (kt : ClassId) (hl1 : own_l1 cs) (hcl : cs.length = n) (hnl : nv = l1) (hcut : B.take n = cs) (hoi : o < i1 ∨ i1 < o) (hot : o < t ∨ t < o) (gw0 : n0 ≤ o) (q0 : Exa Z h0 o "com/example/colophon/colophon/OpenIds") (q1 : Fld Z h0 o "com/example/colophon/colophon/OpenIds" "characters" "Ljava/lang/StringBuilder;" (.ref sb)) (q2 : Fld Z h0 o "com/example/colophon/colophon/OpenIds" "depths" "[I" (.ref dp)) (q3 : Fld Z h0 o "com/example/colophon/colophon/OpenIds" "starts" "[I" (.ref sp)) (q4 : Fld Z h0 o "com/example/colophon/colophon/OpenIds" "count" "I" (.int (1 : Int32))) (q5 : Fld Z h0 o "com/example/colophon/colophon/OpenIds" "innermost" "Ljava/lang/String;" .null) (q6 : Exa Z h0 sb "java/lang/StringBuilder") (q7 : Fld Z h0 sb "java/lang/AbstractStringBuilder" "value" "[B" (.ref bv)) (q8 : Fld Z h0 sb "java/lang/AbstractStringBuilder" "coder" "B" (.int (0 : Int32))) (q9 : Fld Z h0 sb "java/lang/AbstractStringBuilder" "count" "I" (.int nv)) (q10 : Arv Z h0 bv kb .byte (16 : Int32) (own_lat B) (.int (0 : Int32))) (q11 : Arv Z h0 sp ks .int (16 : Int32) [(.int (0 : Int32)), (.int y1), (.int (0 : Int32)), (.int (0 : Int32)), (.int (0 : Int32)), (.int (0 : Int32)), (.int (0 : Int32)), (.int (0 : Int32)), (.int (0 : Int32)), (.int (0 : Int32)), (.int (0 : Int32)), (.int (0 : Int32)), (.int (0 : Int32)), (.int (0 : Int32)), (.int (0 : Int32)), (.int (0 : Int32))] (.int (0 : Int32))) (q12 : Exa Z h0 i1 "java/lang/String") (q13 : Fld Z h0 i1 "java/lang/String" "value" "[B" (.ref t)) (q14 : Fld Z h0 i1 "java/lang/String" "coder" "B" (.int (0 : Int32))) (q15 : Arv Z h0 t kt .byte (Int32.ofNat cs.length) (own_lat cs) (.int (0 : Int32))) :
    MetH l [] Z EL n0 (⟨"com/example/colophon/colophon/OpenIdsEndElementPinLaw", "state", "(Lcom/example/colophon/colophon/OpenIds;ILjava/lang/String;Ljava/lang/String;II)Z"⟩ : MethodName) method_3_code 9 (Option.some FieldType.boolean) ({ frames := 9, cells := 2, slots := 10, locals := 131 } : Room) #[(.ref o), (.int (1 : Int32)), (.ref i1), (.ref i2), (.int l1), (.int l2)] h0 [o] (fun r v' h' => ∃ w, r = some w ∧ ∃ (r : Nat), ∃ (t9 : Nat), ∃ (kt9 : ClassId), w = (.int (1 : Int32)) ∧ (Exa Z h' o "com/example/colophon/colophon/OpenIds") ∧ (Fld Z h' o "com/example/colophon/colophon/OpenIds" "characters" "Ljava/lang/StringBuilder;" (.ref sb)) ∧ (Fld Z h' o "com/example/colophon/colophon/OpenIds" "depths" "[I" (.ref dp)) ∧ (Fld Z h' o "com/example/colophon/colophon/OpenIds" "starts" "[I" (.ref sp)) ∧ (Fld Z h' o "com/example/colophon/colophon/OpenIds" "count" "I" (.int (1 : Int32))) ∧ (Fld Z h' o "com/example/colophon/colophon/OpenIds" "innermost" "Ljava/lang/String;" (.ref r)) ∧ (Exa Z h' r "java/lang/String") ∧ (Fld Z h' r "java/lang/String" "value" "[B" (.ref t9)) ∧ (Fld Z h' r "java/lang/String" "coder" "B" (.int (0 : Int32))) ∧ (Arv Z h' t9 kt9 .byte (Int32.ofNat cs.length) (own_lat cs) (.int (0 : Int32)))) := by
  refine metH (hEL hw) (plainFor_of_name pn_8) O0 (Ls := #[.val (.ref o), .val (.int (1 : Int32)), .val (.ref i1), .val (.ref i2), .val (.int l1), .val (.int l2), .unset, .unset, .unset]) (fun m => by first | (simp [entryFrame, mkF, argsToLocals, Value.category]; done) | rfl) ?_
  intro p e s m below meth c T0 v0 X0 hSf
  have K0_h0 := Keep.refl h0 [o]
  have n0le := X0.n0le
  have ltq0 := own_n q0.lt
  have ltq1 := own_n q1.lt
  have ltq2 := own_n q2.lt
  have ltq3 := own_n q3.lt
  have ltq4 := own_n q4.lt
  have ltq5 := own_n q5.lt
  have ltq6 := own_n q6.lt
  have ltq7 := own_n q7.lt
  have ltq8 := own_n q8.lt
  have ltq9 := own_n q9.lt
  have ltq10 := own_n q10.lt
  have ltq11 := own_n q11.lt
  have ltq12 := own_n q12.lt
  have ltq13 := own_n q13.lt
  have ltq14 := own_n q14.lt
  have ltq15 := own_n q15.lt
  have sf_0 := hSf o (List.mem_of_getElem? (i := 0) rfl)
  obtain ⟨G_cs, G_zc, G_fm, isref_fm⟩ := id G
  have ltt := own_n q15.lt
  refine k_iloadN X0 d_3_0 rfl (pc' := 1) rfl ?_
  refine k_ifYes X0 d_3_1 (by decide) (pc' := 8) (by decide) (by decide) ?_
  refine k_iloadN X0 d_3_8 rfl (pc' := 9) rfl ?_
  refine k_iconst X0 d_3_9 (w := (1 : Int32)) rfl (pc' := 10) rfl ?_
  refine k_icmpNo X0 d_3_10 (by decide) (pc' := 13) rfl ?_
  refine k_aloadN X0 d_3_13 rfl rfl (pc' := 14) rfl ?_
  refine k_goto X0 d_3_14 (pc' := 18) (by decide) (by decide) ?_
  refine k_astore X0 d_3_18 rfl (Ls' := #[.val (.ref o), .val (.int (1 : Int32)), .val (.ref i1), .val (.ref i2), .val (.int l1), .val (.int l2), .val (.ref i1), .unset, .unset]) rfl (pc' := 20) rfl ?_
  refine k_iloadN X0 d_3_20 rfl (pc' := 21) rfl ?_
  refine k_ifYes X0 d_3_21 (by decide) (pc' := 28) (by decide) (by decide) ?_
  refine k_iloadN X0 d_3_28 rfl (pc' := 29) rfl ?_
  refine k_iconst X0 d_3_29 (w := (1 : Int32)) rfl (pc' := 30) rfl ?_
  refine k_icmpNo X0 d_3_30 (by decide) (pc' := 33) rfl ?_
  refine k_iload X0 d_3_33 rfl (pc' := 35) rfl ?_
  refine k_goto X0 d_3_35 (pc' := 43) (by decide) (by decide) ?_
  refine k_istore X0 d_3_43 (Ls' := #[.val (.ref o), .val (.int (1 : Int32)), .val (.ref i1), .val (.ref i2), .val (.int l1), .val (.int l2), .val (.ref i1), .val (.int l1), .unset]) rfl (pc' := 45) rfl ?_
  refine k_aloadN X0 d_3_45 rfl rfl (pc' := 46) rfl ?_
  have ge765 : n0 ≤ o := by omega
  refine k_callVVH X0 (y := (⟨"com/example/colophon/colophon/OpenIds", "innermost", "()Ljava/lang/String;"⟩ : MethodName)) d_3_46 (w_141 hw) (w_142 hw) (w_144 hw) (w_143 hw) (w_38 hw) (w_145 hw) (by decide) (notFace_of_selects (args := #[]) (mvT X0.hZ (w_144 hw))) q0 (argsL := []) (rest := []) (own_inS l Z a0 hw G n0 h0 X0.old o sb dp sp ks bv kb B n nv hnv hn hBl hfar y1 ge765 q0 q1 q2 q3 q4 q5 q6 q7 q8 q9 q10 q11) rfl pd_25 rfl rfl (by decide) (W := 0) (Nat.le_of_eq rfl) (by decide) (by decide) (by decide) (allS ⟨⟨own_n (by omega), sf_0⟩, ge765⟩ all0) (pc' := 49) rfl ?_
  rintro _ v769 T769 h769 L769 X769 K769 C769 ⟨r_766, t9_767, kt9_768, rfl, q769_0, q769_1, q769_2, q769_3, q769_4, q769_5, q769_6, q769_7, q769_8, q769_9⟩
  have sz_h769 := K769.1
  have K0_h769 : Keep h0 h769 [o] := K0_h0.trans K769 (allS (Or.inl (List.mem_of_getElem? (i := 0) rfl)) all0)
  have lt769_0 := own_n q769_0.lt
  have lt769_1 := own_n q769_1.lt
  have lt769_2 := own_n q769_2.lt
  have lt769_3 := own_n q769_3.lt
  have lt769_4 := own_n q769_4.lt
  have lt769_5 := own_n q769_5.lt
  have lt769_6 := own_n q769_6.lt
  have lt769_7 := own_n q769_7.lt
  have lt769_8 := own_n q769_8.lt
  have lt769_9 := own_n q769_9.lt
  rw [hcut, ← hcl] at q769_9
  refine k_astore X769 d_3_49 rfl (Ls' := #[.val (.ref o), .val (.int (1 : Int32)), .val (.ref i1), .val (.ref i2), .val (.int l1), .val (.int l2), .val (.ref i1), .val (.int l1), .val (.ref r_766)]) rfl (pc' := 51) rfl ?_
  refine k_aload X769 d_3_51 rfl rfl (pc' := 53) rfl ?_
  refine k_aload X769 d_3_53 rfl rfl (pc' := 55) rfl ?_
  have c771 := (q12.keep K769)
  have ne772 : (i1 : Nat) ≠ o := own_ne (by omega)
  have c773 := (q13.keep K769 (ninS ne772 nin0))
  have c774 := (q14.keep K769 (ninS ne772 nin0))
  have ne775 : (t : Nat) ≠ o := own_ne (by omega)
  have c776 := (q15.keep K769 (ninS ne775 nin0))
  refine k_callSVF X769 (y := (⟨"com/example/colophon/colophon/OpenIdsEndElementPinLaw", "same", "(Ljava/lang/String;Ljava/lang/String;)Z"⟩ : MethodName)) d_3_55 (w_146 hw) (w_147 hw) (w_2 hw) (w_148 hw) (by decide) (argsL := [(.ref r_766), (.ref i1)]) (rest := []) (own_same l Z a0 hw G n0 h769 X769.old r_766 i1 cs t9_767 kt9_768 t kt hl1 (by omega) q769_6 q769_7 q769_8 q769_9 c771 c773 c774 c776) rfl pd_26 rfl rfl (by decide) (W := 0) (Nat.le_of_eq rfl) (by decide) (by decide) (by decide) all0 (pc' := 58) rfl ?_
  rintro _ T777 h777 L777 X777 K777 ⟨rfl, -⟩
  have sz_h777 := K777.1
  have K0_h777 : Keep h0 h777 [o] := K0_h769.trans K777 all0
  refine k_ifNo X777 d_3_58 (by decide) (pc' := 61) rfl ?_
  refine k_aloadN X777 d_3_61 rfl rfl (pc' := 62) rfl ?_
  have c779 := (q769_1.keep K777 nin0)
  have c780 := ((q6.keep K769).keep K777)
  have c781 := ((q9.keep K769 (ninS (own_farN hfar (i := 1) (j := 0) rfl rfl (by decide)) nin0)).keep K777 nin0)
  have c782 := (q769_0.keep K777)
  refine k_callVVF X777 (y := (⟨"com/example/colophon/colophon/OpenIds", "length", "()I"⟩ : MethodName)) d_3_62 (w_154 hw) (w_155 hw) (w_157 hw) (w_156 hw) (w_38 hw) (w_158 hw) (by decide) (notFace_of_selects (args := #[]) (mvT X777.hZ (w_157 hw))) c782 (argsL := []) (rest := []) (own_oiL l Z a0 hw G n0 h777 X777.old o sb nv c779 c780 c781) rfl pd_10 rfl rfl (by decide) (W := 0) (Nat.le_of_eq rfl) (by decide) (by decide) (by decide) all0 (pc' := 65) rfl ?_
  rintro _ T783 h783 L783 X783 K783 ⟨rfl, -⟩
  have sz_h783 := K783.1
  have K0_h783 : Keep h0 h783 [o] := K0_h777.trans K783 all0
  refine k_iload X783 d_3_65 rfl (pc' := 67) rfl ?_
  refine k_icmpNo X783 d_3_67 (teq hnl).2 (pc' := 70) rfl ?_
  refine k_iconst X783 d_3_70 (w := (1 : Int32)) rfl (pc' := 71) rfl ?_
  refine k_goto X783 d_3_71 (pc' := 75) (by decide) (by decide) ?_
  have c785 := (c782.keep K783)
  have c786 := (c779.keep K783 nin0)
  have c787 := ((q769_2.keep K777 nin0).keep K783 nin0)
  have c788 := ((q769_3.keep K777 nin0).keep K783 nin0)
  have c789 := ((q769_4.keep K777 nin0).keep K783 nin0)
  have c790 := ((q769_5.keep K777 nin0).keep K783 nin0)
  have c791 := ((q769_6.keep K777).keep K783)
  have c792 := ((q769_7.keep K777 nin0).keep K783 nin0)
  have c793 := ((q769_8.keep K777 nin0).keep K783 nin0)
  have c794 := ((q769_9.keep K777 nin0).keep K783 nin0)
  exact k_retHN X783 (w := (1 : Int32)) d_3_75 (t := .boolean) rfl (by simp) rfl K0_h783 (fun v' C' => ⟨_, rfl, _, _, _, rfl, c785, c786, c787, c788, c789, c790, c791, c792, c793, c794⟩) (by decide) (by decide)
set_option maxRecDepth 65536 in
set_option maxHeartbeats 40000000 in
theorem own_stt2 (l : Launch) (Z : State) (a0 : Array Value) (hw : ∀ d ∈ tables_1, d.before a0 Z = true) {zc : Int32} {fm : Value}  (G : Gl Z zc fm) (n0 : Nat) (h0 : Heap) (O0 : Old Z n0 h0) (o : Nat) (i1 : Nat) (l1 : Int32) (l2 : Int32) (i2 : Nat) (sb : Nat) (z : Nat) (nv : Int32) (cs : List Int32) (t : Nat) (kt : ClassId) (t2 : Nat) (kt2 : ClassId) (hl1 : own_l1 cs) (hcl : cs.length ≤ 6) (hnv : nv = l1 + l2)  (q0 : Exa Z h0 o "com/example/colophon/colophon/OpenIds") (q1 : Fld Z h0 o "com/example/colophon/colophon/OpenIds" "innermost" "Ljava/lang/String;" (.ref z)) (q2 : Fld Z h0 o "com/example/colophon/colophon/OpenIds" "characters" "Ljava/lang/StringBuilder;" (.ref sb)) (q3 : Exa Z h0 sb "java/lang/StringBuilder") (q4 : Fld Z h0 sb "java/lang/AbstractStringBuilder" "count" "I" (.int nv)) (q5 : Exa Z h0 i2 "java/lang/String") (q6 : Fld Z h0 i2 "java/lang/String" "value" "[B" (.ref t)) (q7 : Fld Z h0 i2 "java/lang/String" "coder" "B" (.int (0 : Int32))) (q8 : Arv Z h0 t kt .byte (Int32.ofNat cs.length) (own_lat cs) (.int (0 : Int32))) (q9 : Exa Z h0 z "java/lang/String") (q10 : Fld Z h0 z "java/lang/String" "value" "[B" (.ref t2)) (q11 : Fld Z h0 z "java/lang/String" "coder" "B" (.int (0 : Int32))) (q12 : Arv Z h0 t2 kt2 .byte (Int32.ofNat cs.length) (own_lat cs) (.int (0 : Int32))) :
    MetF l [] Z n0 (⟨"com/example/colophon/colophon/OpenIdsEndElementPinLaw", "state", "(Lcom/example/colophon/colophon/OpenIds;ILjava/lang/String;Ljava/lang/String;II)Z"⟩ : MethodName) method_3_code 9 (Option.some FieldType.boolean) ({ frames := 3, cells := 0, slots := 0, locals := 41 } : Room) #[(.ref o), (.int (2 : Int32)), (.ref i1), (.ref i2), (.int l1), (.int l2)] h0 [] (fun r h' => ∃ w, r = some w ∧ w = (.int (1 : Int32)) ∧ True) := by
  refine metF (plainFor_of_name pn_8) O0 (Ls := #[.val (.ref o), .val (.int (2 : Int32)), .val (.ref i1), .val (.ref i2), .val (.int l1), .val (.int l2), .unset, .unset, .unset]) (fun m => by first | (simp [entryFrame, mkF, argsToLocals, Value.category]; done) | rfl) ?_
  intro p e s m below meth c T0 X0
  have K0_h0 := Keep.refl h0 []
  have n0le := X0.n0le
  have ltq0 := own_n q0.lt
  have ltq1 := own_n q1.lt
  have ltq2 := own_n q2.lt
  have ltq3 := own_n q3.lt
  have ltq4 := own_n q4.lt
  have ltq5 := own_n q5.lt
  have ltq6 := own_n q6.lt
  have ltq7 := own_n q7.lt
  have ltq8 := own_n q8.lt
  have ltq9 := own_n q9.lt
  have ltq10 := own_n q10.lt
  have ltq11 := own_n q11.lt
  have ltq12 := own_n q12.lt
  obtain ⟨G_cs, G_zc, G_fm, isref_fm⟩ := id G
  refine k_iloadN X0 d_3_0 rfl (pc' := 1) rfl ?_
  refine k_ifYes X0 d_3_1 (by decide) (pc' := 8) (by decide) (by decide) ?_
  refine k_iloadN X0 d_3_8 rfl (pc' := 9) rfl ?_
  refine k_iconst X0 d_3_9 (w := (1 : Int32)) rfl (pc' := 10) rfl ?_
  refine k_icmpYes X0 d_3_10 (by decide) (pc' := 17) (by decide) (by decide) ?_
  refine k_aloadN X0 d_3_17 rfl rfl (pc' := 18) rfl ?_
  refine k_astore X0 d_3_18 rfl (Ls' := #[.val (.ref o), .val (.int (2 : Int32)), .val (.ref i1), .val (.ref i2), .val (.int l1), .val (.int l2), .val (.ref i2), .unset, .unset]) rfl (pc' := 20) rfl ?_
  refine k_iloadN X0 d_3_20 rfl (pc' := 21) rfl ?_
  refine k_ifYes X0 d_3_21 (by decide) (pc' := 28) (by decide) (by decide) ?_
  refine k_iloadN X0 d_3_28 rfl (pc' := 29) rfl ?_
  refine k_iconst X0 d_3_29 (w := (1 : Int32)) rfl (pc' := 30) rfl ?_
  refine k_icmpYes X0 d_3_30 (by decide) (pc' := 38) (by decide) (by decide) ?_
  refine k_iload X0 d_3_38 rfl (pc' := 40) rfl ?_
  refine k_iload X0 d_3_40 rfl (pc' := 42) rfl ?_
  refine k_iadd X0 d_3_42 (w := (l1 + l2)) rfl (pc' := 43) rfl ?_
  refine k_istore X0 d_3_43 (Ls' := #[.val (.ref o), .val (.int (2 : Int32)), .val (.ref i1), .val (.ref i2), .val (.int l1), .val (.int l2), .val (.ref i2), .val (.int (l1 + l2)), .unset]) rfl (pc' := 45) rfl ?_
  refine k_aloadN X0 d_3_45 rfl rfl (pc' := 46) rfl ?_
  refine k_callVVF X0 (y := (⟨"com/example/colophon/colophon/OpenIds", "innermost", "()Ljava/lang/String;"⟩ : MethodName)) d_3_46 (w_141 hw) (w_142 hw) (w_144 hw) (w_143 hw) (w_38 hw) (w_145 hw) (by decide) (notFace_of_selects (args := #[]) (mvT X0.hZ (w_144 hw))) q0 (argsL := []) (rest := []) (own_inR l Z a0 hw G n0 h0 X0.old o z q1) rfl pd_25 rfl rfl (by decide) (W := 0) (Nat.le_of_eq rfl) (by decide) (by decide) (by decide) all0 (pc' := 49) rfl ?_
  rintro _ T795 h795 L795 X795 K795 ⟨rfl, -⟩
  have sz_h795 := K795.1
  have K0_h795 : Keep h0 h795 [] := K0_h0.trans K795 all0
  refine k_astore X795 d_3_49 rfl (Ls' := #[.val (.ref o), .val (.int (2 : Int32)), .val (.ref i1), .val (.ref i2), .val (.int l1), .val (.int l2), .val (.ref i2), .val (.int (l1 + l2)), .val (.ref z)]) rfl (pc' := 51) rfl ?_
  refine k_aload X795 d_3_51 rfl rfl (pc' := 53) rfl ?_
  refine k_aload X795 d_3_53 rfl rfl (pc' := 55) rfl ?_
  have c797 := (q9.keep K795)
  have c798 := (q10.keep K795 nin0)
  have c799 := (q11.keep K795 nin0)
  have c800 := (q12.keep K795 nin0)
  have c801 := (q5.keep K795)
  have c802 := (q6.keep K795 nin0)
  have c803 := (q7.keep K795 nin0)
  have c804 := (q8.keep K795 nin0)
  refine k_callSVF X795 (y := (⟨"com/example/colophon/colophon/OpenIdsEndElementPinLaw", "same", "(Ljava/lang/String;Ljava/lang/String;)Z"⟩ : MethodName)) d_3_55 (w_146 hw) (w_147 hw) (w_2 hw) (w_148 hw) (by decide) (argsL := [(.ref z), (.ref i2)]) (rest := []) (own_same l Z a0 hw G n0 h795 X795.old z i2 cs t2 kt2 t kt hl1 hcl c797 c798 c799 c800 c801 c802 c803 c804) rfl pd_26 rfl rfl (by decide) (W := 0) (Nat.le_of_eq rfl) (by decide) (by decide) (by decide) all0 (pc' := 58) rfl ?_
  rintro _ T805 h805 L805 X805 K805 ⟨rfl, -⟩
  have sz_h805 := K805.1
  have K0_h805 : Keep h0 h805 [] := K0_h795.trans K805 all0
  refine k_ifNo X805 d_3_58 (by decide) (pc' := 61) rfl ?_
  refine k_aloadN X805 d_3_61 rfl rfl (pc' := 62) rfl ?_
  have c807 := ((q2.keep K795 nin0).keep K805 nin0)
  have c808 := ((q3.keep K795).keep K805)
  have c809 := ((q4.keep K795 nin0).keep K805 nin0)
  have c810 := ((q0.keep K795).keep K805)
  refine k_callVVF X805 (y := (⟨"com/example/colophon/colophon/OpenIds", "length", "()I"⟩ : MethodName)) d_3_62 (w_154 hw) (w_155 hw) (w_157 hw) (w_156 hw) (w_38 hw) (w_158 hw) (by decide) (notFace_of_selects (args := #[]) (mvT X805.hZ (w_157 hw))) c810 (argsL := []) (rest := []) (own_oiL l Z a0 hw G n0 h805 X805.old o sb nv c807 c808 c809) rfl pd_10 rfl rfl (by decide) (W := 0) (Nat.le_of_eq rfl) (by decide) (by decide) (by decide) all0 (pc' := 65) rfl ?_
  rintro _ T811 h811 L811 X811 K811 ⟨rfl, -⟩
  have sz_h811 := K811.1
  have K0_h811 : Keep h0 h811 [] := K0_h805.trans K811 all0
  refine k_iload X811 d_3_65 rfl (pc' := 67) rfl ?_
  refine k_icmpNo X811 d_3_67 (teq hnv).2 (pc' := 70) rfl ?_
  refine k_iconst X811 d_3_70 (w := (1 : Int32)) rfl (pc' := 71) rfl ?_
  refine k_goto X811 d_3_71 (pc' := 75) (by decide) (by decide) ?_
  exact k_retFN X811 (w := (1 : Int32)) d_3_75 (t := .boolean) rfl (by simp) rfl K0_h811 ⟨_, rfl, rfl, trivial⟩ (by decide) (by decide)
set_option maxRecDepth 65536 in
set_option maxHeartbeats 40000000 in
theorem own_law (l : Launch) (Z : State) (a0 : Array Value) (hw : ∀ d ∈ tables_1, d.before a0 Z = true) {zc : Int32} {fm : Value} (G : Gl Z zc fm) (n0 : Nat) (h0 : Heap) (O0 : Old Z n0 h0) (p0 : Int32) (p1 : Int32) (p2 : Int32) (p3 : Int32) (p4 : Int32) (p5 : Int32) :
    MetH l tables_1 Z EL n0 (⟨"com/example/colophon/colophon/OpenIdsEndElementPinLaw", "law", "(IIIIII)Z"⟩ : MethodName) code 24 (some .boolean) room_1 #[(.int p0), (.int p1), (.int p2), (.int p3), (.int p4), (.int p5)] h0 [] (fun r v' h' => ∃ w, r = some w ∧ w = .int (1 : Int32) ∧ True) := by
  refine metH (hEL hw) (plainFor_of_name pn_8) O0 (Ls := #[.val (.int p0), .val (.int p1), .val (.int p2), .val (.int p3), .val (.int p4), .val (.int p5), .unset, .unset, .unset, .unset, .unset, .unset, .unset, .unset, .unset, .unset, .unset, .unset, .unset, .unset, .unset, .unset, .unset, .unset]) (fun m => by first | (simp [entryFrame, mkF, argsToLocals, Value.category]; done) | rfl) ?_
  intro p e s m below meth c T0 v0 X0 hSf
  have K0_h0 := Keep.refl h0 []
  have n0le := X0.n0le
  obtain ⟨G_cs, G_zc, G_fm, isref_fm⟩ := id G
  obtain ⟨l1, hl1⟩ : ∃ z, (((p5.toUInt32 >>> ((1 : Int32) &&& 31).toUInt32).toInt32) &&& (3 : Int32)) = z := ⟨_, rfl⟩
  have gl1 : own_0123 l1 := hl1 ▸ own_and3 _
  obtain ⟨l2, hl2⟩ : ∃ z, (((p5.toUInt32 >>> ((3 : Int32) &&& 31).toUInt32).toInt32) &&& (3 : Int32)) = z := ⟨_, rfl⟩
  have gl2 : own_0123 l2 := hl2 ▸ own_and3 _
  obtain ⟨d1, hd1⟩ : ∃ z, (1 : Int32) + (p0 &&& (1073741823 : Int32)) = z := ⟨_, rfl⟩
  obtain ⟨d2, hd2⟩ : ∃ z, d1 + (1 : Int32) + (p1 &&& (268435455 : Int32)) = z := ⟨_, rfl⟩
  obtain ⟨ka, hka⟩ : ∃ z, (1 : Int32) + (((p2.toUInt32 >>> ((1 : Int32) &&& 31).toUInt32).toInt32) &&& (268435455 : Int32)) = z := ⟨_, rfl⟩
  have uka : own_up ka ∧ ¬ ka = 0 := hka ▸ own_up1 _
  obtain ⟨ja, hja⟩ : ∃ z, (1 : Int32) + (((p3.toUInt32 >>> ((1 : Int32) &&& 31).toUInt32).toInt32) &&& (268435455 : Int32)) = z := ⟨_, rfl⟩
  have uja : own_up ja ∧ ¬ ja = 0 := hja ▸ own_up1 _
  refine k_iload X0 at_0 rfl (pc' := 2) rfl ?_
  refine k_iconst X0 at_2 (w := (1 : Int32)) rfl (pc' := 3) rfl ?_
  refine k_iand X0 at_3 (w := (p5 &&& (1 : Int32))) rfl (pc' := 4) rfl ?_
  by_cases hc813 : (p5 &&& (1 : Int32)) = (0 : Int32)
  · refine k_ifNo X0 at_4 ((if0 _ _).trans (teq hc813).2) (pc' := 7) rfl ?_
    refine k_iconst X0 at_7 (w := (1 : Int32)) rfl (pc' := 8) rfl ?_
    refine k_goto X0 at_8 (pc' := 12) (by decide) (by decide) ?_
    refine k_istore X0 at_12 (Ls' := #[.val (.int p0), .val (.int p1), .val (.int p2), .val (.int p3), .val (.int p4), .val (.int p5), .val (.int (1 : Int32)), .unset, .unset, .unset, .unset, .unset, .unset, .unset, .unset, .unset, .unset, .unset, .unset, .unset, .unset, .unset, .unset, .unset]) rfl (pc' := 14) rfl ?_
    refine k_iload X0 at_14 rfl (pc' := 16) rfl ?_
    refine k_iconst X0 at_16 (w := (1 : Int32)) rfl (pc' := 17) rfl ?_
    refine k_iushr X0 at_17 (w := ((p5.toUInt32 >>> ((1 : Int32) &&& 31).toUInt32).toInt32)) rfl (pc' := 18) rfl ?_
    refine k_iconst X0 at_18 (w := (3 : Int32)) rfl (pc' := 19) rfl ?_
    refine k_iand X0 at_19 (w := l1) hl1 (pc' := 20) rfl ?_
    refine k_istore X0 at_20 (Ls' := #[.val (.int p0), .val (.int p1), .val (.int p2), .val (.int p3), .val (.int p4), .val (.int p5), .val (.int (1 : Int32)), .val (.int l1), .unset, .unset, .unset, .unset, .unset, .unset, .unset, .unset, .unset, .unset, .unset, .unset, .unset, .unset, .unset, .unset]) rfl (pc' := 22) rfl ?_
    refine k_iload X0 at_22 rfl (pc' := 24) rfl ?_
    refine k_iconst X0 at_24 (w := (3 : Int32)) rfl (pc' := 25) rfl ?_
    refine k_iushr X0 at_25 (w := ((p5.toUInt32 >>> ((3 : Int32) &&& 31).toUInt32).toInt32)) rfl (pc' := 26) rfl ?_
    refine k_iconst X0 at_26 (w := (3 : Int32)) rfl (pc' := 27) rfl ?_
    refine k_iand X0 at_27 (w := l2) hl2 (pc' := 28) rfl ?_
    refine k_istore X0 at_28 (Ls' := #[.val (.int p0), .val (.int p1), .val (.int p2), .val (.int p3), .val (.int p4), .val (.int p5), .val (.int (1 : Int32)), .val (.int l1), .val (.int l2), .unset, .unset, .unset, .unset, .unset, .unset, .unset, .unset, .unset, .unset, .unset, .unset, .unset, .unset, .unset]) rfl (pc' := 30) rfl ?_
    refine k_iload X0 at_30 rfl (pc' := 32) rfl ?_
    refine k_iconst X0 at_32 (w := (5 : Int32)) rfl (pc' := 33) rfl ?_
    refine k_iushr X0 at_33 (w := ((p5.toUInt32 >>> ((5 : Int32) &&& 31).toUInt32).toInt32)) rfl (pc' := 34) rfl ?_
    refine k_iconst X0 at_34 (w := (1 : Int32)) rfl (pc' := 35) rfl ?_
    refine k_iand X0 at_35 (w := (((p5.toUInt32 >>> ((5 : Int32) &&& 31).toUInt32).toInt32) &&& (1 : Int32))) rfl (pc' := 36) rfl ?_
    have j814 : ∀ (Tj814 : State) (hj814 : Heap) (Lj814 : List Loc) (vj814 : Vm) (pbv : Int32), WP p l e room_1 (s.setVm vj814) m #[(.int p0), (.int p1), (.int p2), (.int p3), (.int p4), (.int p5)] below meth c Z "com/example/colophon/colophon/OpenIdsEndElementPinLaw" "law" code 24 (some .boolean) n0 (InvH Z a0 EL s vj814) (Safe Z EL vj814) Tj814 hj814 Lj814 0 0 → Keep h0 hj814 [] → Run p.tables e below (PH Z EL s below n0 h0 [] (fun r v' h' => ∃ w, r = some w ∧ w = .int (1 : Int32) ∧ True) room_1.cells room_1.slots) Tj814 (mkF m 46 #[.val (.int p0), .val (.int p1), .val (.int p2), .val (.int p3), .val (.int p4), .val (.int p5), .val (.int (1 : Int32)), .val (.int l1), .val (.int l2), .val (.int pbv), .unset, .unset, .unset, .unset, .unset, .unset, .unset, .unset, .unset, .unset, .unset, .unset, .unset, .unset] []) := by
      intro Tj814 hj814 Lj814 vj814 pbv  Xj814 Kj814 
      have nlej814 := Xj814.n0le
      have lhj814 := Kj814.1
      refine k_iload Xj814 at_46 rfl (pc' := 48) rfl ?_
      refine k_iload Xj814 at_48 rfl (pc' := 50) rfl ?_
      refine k_callSVH Xj814 (y := (⟨"com/example/colophon/colophon/OpenIdsEndElementPinLaw", "mk", "(II)Ljava/lang/String;"⟩ : MethodName)) at_50 (w_0 hw) (w_1 hw) (w_2 hw) (w_3 hw) (by decide) (argsL := [(.int l1), (.int p4)]) (rest := []) (own_mk l Z a0 hw G n0 hj814 Xj814.old l1 p4 gl1 ) rfl pd_22 rfl rfl (by decide) (W := 0) (Nat.le_of_eq rfl) (by decide) (by decide) (by decide) all0 (pc' := 53) rfl ?_
      rintro _ v819 T819 h819 L819 X819 K819 C819 ⟨r_815, t_816, kt_817, cs_818, rfl, q819_0, q819_1, q819_2, q819_3, q819_4⟩
      have sz_h819 := K819.1
      have K0_h819 : Keep h0 h819 [] := Kj814.trans K819 all0
      have lt819_0 := own_n q819_0.lt
      have lt819_1 := own_n q819_1.lt
      have lt819_2 := own_n q819_2.lt
      have lt819_3 := own_n q819_3.lt
      refine k_astore X819 at_53 rfl (Ls' := #[.val (.int p0), .val (.int p1), .val (.int p2), .val (.int p3), .val (.int p4), .val (.int p5), .val (.int (1 : Int32)), .val (.int l1), .val (.int l2), .val (.int pbv), .val (.ref r_815), .unset, .unset, .unset, .unset, .unset, .unset, .unset, .unset, .unset, .unset, .unset, .unset, .unset]) rfl (pc' := 55) rfl ?_
      refine k_iload X819 at_55 rfl (pc' := 57) rfl ?_
      refine k_ifNo X819 at_57 (by decide) (pc' := 60) rfl ?_
      refine k_iload X819 at_60 rfl (pc' := 62) rfl ?_
      refine k_iload X819 at_62 rfl (pc' := 64) rfl ?_
      refine k_bipush X819 at_64 (w := (8 : Int32)) rfl (pc' := 66) rfl ?_
      refine k_iushr X819 at_66 (w := ((p5.toUInt32 >>> ((8 : Int32) &&& 31).toUInt32).toInt32)) rfl (pc' := 67) rfl ?_
      refine k_callSVH X819 (y := (⟨"com/example/colophon/colophon/OpenIdsEndElementPinLaw", "mk", "(II)Ljava/lang/String;"⟩ : MethodName)) at_67 (w_0 hw) (w_1 hw) (w_2 hw) (w_3 hw) (by decide) (argsL := [(.int l2), (.int ((p5.toUInt32 >>> ((8 : Int32) &&& 31).toUInt32).toInt32))]) (rest := []) (own_mk l Z a0 hw G n0 h819 X819.old l2 ((p5.toUInt32 >>> ((8 : Int32) &&& 31).toUInt32).toInt32) gl2 ) rfl pd_22 rfl rfl (by decide) (W := 0) (Nat.le_of_eq rfl) (by decide) (by decide) (by decide) all0 (pc' := 70) rfl ?_
      rintro _ v825 T825 h825 L825 X825 K825 C825 ⟨r_821, t_822, kt_823, cs_824, rfl, q825_0, q825_1, q825_2, q825_3, q825_4⟩
      have sz_h825 := K825.1
      have K0_h825 : Keep h0 h825 [] := K0_h819.trans K825 all0
      have lt825_0 := own_n q825_0.lt
      have lt825_1 := own_n q825_1.lt
      have lt825_2 := own_n q825_2.lt
      have lt825_3 := own_n q825_3.lt
      refine k_goto X825 at_70 (pc' := 74) (by decide) (by decide) ?_
      refine k_astore X825 at_74 rfl (Ls' := #[.val (.int p0), .val (.int p1), .val (.int p2), .val (.int p3), .val (.int p4), .val (.int p5), .val (.int (1 : Int32)), .val (.int l1), .val (.int l2), .val (.int pbv), .val (.ref r_815), .val (.ref r_821), .unset, .unset, .unset, .unset, .unset, .unset, .unset, .unset, .unset, .unset, .unset, .unset]) rfl (pc' := 76) rfl ?_
      refine k_iconst X825 at_76 (w := (1 : Int32)) rfl (pc' := 77) rfl ?_
      refine k_iloadN X825 at_77 rfl (pc' := 78) rfl ?_
      refine k_ldcI X825 at_78 (w_34 hw) (pc' := 80) rfl ?_
      refine k_iand X825 at_80 (w := (p0 &&& (1073741823 : Int32))) rfl (pc' := 81) rfl ?_
      refine k_iadd X825 at_81 (w := d1) hd1 (pc' := 82) rfl ?_
      refine k_istore X825 at_82 (Ls' := #[.val (.int p0), .val (.int p1), .val (.int p2), .val (.int p3), .val (.int p4), .val (.int p5), .val (.int (1 : Int32)), .val (.int l1), .val (.int l2), .val (.int pbv), .val (.ref r_815), .val (.ref r_821), .val (.int d1), .unset, .unset, .unset, .unset, .unset, .unset, .unset, .unset, .unset, .unset, .unset]) rfl (pc' := 84) rfl ?_
      refine k_iload X825 at_84 rfl (pc' := 86) rfl ?_
      refine k_iconst X825 at_86 (w := (1 : Int32)) rfl (pc' := 87) rfl ?_
      refine k_iadd X825 at_87 (w := (d1 + (1 : Int32))) rfl (pc' := 88) rfl ?_
      refine k_iloadN X825 at_88 rfl (pc' := 89) rfl ?_
      refine k_ldcI X825 at_89 (w_35 hw) (pc' := 91) rfl ?_
      refine k_iand X825 at_91 (w := (p1 &&& (268435455 : Int32))) rfl (pc' := 92) rfl ?_
      refine k_iadd X825 at_92 (w := d2) hd2 (pc' := 93) rfl ?_
      refine k_istore X825 at_93 (Ls' := #[.val (.int p0), .val (.int p1), .val (.int p2), .val (.int p3), .val (.int p4), .val (.int p5), .val (.int (1 : Int32)), .val (.int l1), .val (.int l2), .val (.int pbv), .val (.ref r_815), .val (.ref r_821), .val (.int d1), .val (.int d2), .unset, .unset, .unset, .unset, .unset, .unset, .unset, .unset, .unset, .unset]) rfl (pc' := 95) rfl ?_
      refine k_iloadN X825 at_95 rfl (pc' := 96) rfl ?_
      refine k_iconst X825 at_96 (w := (1 : Int32)) rfl (pc' := 97) rfl ?_
      refine k_iand X825 at_97 (w := (p2 &&& (1 : Int32))) rfl (pc' := 98) rfl ?_
      have j827 : ∀ (Tj827 : State) (hj827 : Heap) (Lj827 : List Loc) (vj827 : Vm) (k j e1 e2 : Int32), own_up k → own_up j → ((k = 0 ∧ d2 = e1 ∧ d1 + j = e2) ∨ (¬ k = 0 ∧ d2 + k = e1 ∧ d2 + j = e2)) → WP p l e room_1 (s.setVm vj827) m #[(.int p0), (.int p1), (.int p2), (.int p3), (.int p4), (.int p5)] below meth c Z "com/example/colophon/colophon/OpenIdsEndElementPinLaw" "law" code 24 (some .boolean) n0 (InvH Z a0 EL s vj827) (Safe Z EL vj827) Tj827 hj827 Lj827 12 24 → Keep h0 hj827 [] → Exa Z hj827 r_815 "java/lang/String" → Fld Z hj827 r_815 "java/lang/String" "value" "[B" (.ref t_816) → Fld Z hj827 r_815 "java/lang/String" "coder" "B" (.int (0 : Int32)) → Arv Z hj827 t_816 kt_817 .byte (Int32.ofNat cs_818.length) (own_lat cs_818) (.int (0 : Int32)) → Exa Z hj827 r_821 "java/lang/String" → Fld Z hj827 r_821 "java/lang/String" "value" "[B" (.ref t_822) → Fld Z hj827 r_821 "java/lang/String" "coder" "B" (.int (0 : Int32)) → Arv Z hj827 t_822 kt_823 .byte (Int32.ofNat cs_824.length) (own_lat cs_824) (.int (0 : Int32)) → Run p.tables e below (PH Z EL s below n0 h0 [] (fun r v' h' => ∃ w, r = some w ∧ w = .int (1 : Int32) ∧ True) room_1.cells room_1.slots) Tj827 (mkF m 159 #[.val (.int p0), .val (.int p1), .val (.int p2), .val (.int p3), .val (.int p4), .val (.int p5), .val (.int (1 : Int32)), .val (.int l1), .val (.int l2), .val (.int pbv), .val (.ref r_815), .val (.ref r_821), .val (.int d1), .val (.int d2), .val (.int k), .val (.int j), .val (.int e1), .val (.int e2), .unset, .unset, .unset, .unset, .unset, .unset] []) := by
        intro Tj827 hj827 Lj827 vj827 k j e1 e2 huk huj hR Xj827 Kj827 fj827_0 fj827_1 fj827_2 fj827_3 fj827_4 fj827_5 fj827_6 fj827_7
        have nlej827 := Xj827.n0le
        have lhj827 := Kj827.1
        have ltj827_0 := own_n fj827_0.lt
        have ltj827_3 := own_n fj827_3.lt
        have ltj827_4 := own_n fj827_4.lt
        have ltj827_7 := own_n fj827_7.lt
        have m1 := q819_4
        have m1l := m1.2.1
        have m2 := q825_4
        have m2l := m2.2.1
        have lt_r_815 := own_n fj827_0.lt
        have lt_t_816 := own_n fj827_3.lt
        have lt_r_821 := own_n fj827_4.lt
        have lt_t_822 := own_n fj827_7.lt
        refine k_newO Xj827 at_159 (w_36 hw) (w_37 hw) (w_38 hw) (by decide) (by decide) (pc' := 162) rfl fun T828 h828 b828 g828 X828 K828 E828 D828 S828 lt828 ge828 => ?_
        have sz_h828 := K828.1
        have K0_h828 : Keep h0 h828 [] := Kj827.trans K828 all0
        have Fn828_characters : Fld Z h828 b828 "com/example/colophon/colophon/OpenIds" "characters" "Ljava/lang/StringBuilder;" .null := D828 (Or.inr (w_62 hw)) (ty := (.object "java/lang/StringBuilder")) (by decide)
        have Fn828_depths : Fld Z h828 b828 "com/example/colophon/colophon/OpenIds" "depths" "[I" .null := D828 (Or.inl (w_65 hw)) (ty := (.array .int)) (by decide)
        have Fn828_starts : Fld Z h828 b828 "com/example/colophon/colophon/OpenIds" "starts" "[I" .null := D828 (Or.inl (w_67 hw)) (ty := (.array .int)) (by decide)
        have Fn828_count : Fld Z h828 b828 "com/example/colophon/colophon/OpenIds" "count" "I" (.int (0 : Int32)) := D828 (Or.inl (w_74 hw)) (ty := .int) (by decide)
        have Fn828_innermost : Fld Z h828 b828 "com/example/colophon/colophon/OpenIds" "innermost" "Ljava/lang/String;" .null := D828 (Or.inl (w_132 hw)) (ty := (.object "java/lang/String")) (by decide)
        refine k_dup X828 at_162 rfl (pc' := 163) rfl ?_
        have ge829 : n0 ≤ b828 := by omega
        refine k_callPNF X828 (y := (⟨"com/example/colophon/colophon/OpenIds", "<init>", "()V"⟩ : MethodName)) at_163 (w_39 hw) (w_40 hw) (w_38 hw) (w_41 hw) (by decide) rfl rfl (argsL := []) (rest := [(.ref b828)]) (own_oiI l Z a0 hw G n0 h828 X828.old b828 ge829 E828 Fn828_characters Fn828_depths Fn828_starts Fn828_count Fn828_innermost) rfl pd_16 rfl rfl (by decide) (W := 1) (Nat.le_of_eq rfl) (by decide) (by decide) (by decide) (allS ⟨S828, ge829⟩ all0) (pc' := 166) rfl ?_
        rintro T837 h837 L837 X837 K837 ⟨sb_830, bv_831, dp_832, sp_833, kb_834, kd_835, ks_836, q837_0, q837_1, q837_2, q837_3, q837_4, q837_5, q837_6, q837_7, q837_8, q837_9, q837_10, q837_11, q837_12, q837_13, q837_14, q837_15, q837_16, q837_17, q837_18⟩
        have sz_h837 := K837.1
        have od838 : h0.size ≤ b828 := by omega
        have K0_h837 : Keep h0 h837 [] := K0_h828.trans K837 (allS (Or.inr od838) all0)
        have lt837_0 := own_n q837_0.lt
        have lt837_1 := own_n q837_1.lt
        have lt837_2 := own_n q837_2.lt
        have lt837_3 := own_n q837_3.lt
        have lt837_4 := own_n q837_4.lt
        have lt837_5 := own_n q837_5.lt
        have lt837_6 := own_n q837_6.lt
        have lt837_7 := own_n q837_7.lt
        have lt837_8 := own_n q837_8.lt
        have lt837_9 := own_n q837_9.lt
        have lt837_10 := own_n q837_10.lt
        have lt837_11 := own_n q837_11.lt
        have lt837_12 := own_n q837_12.lt
        have lt837_13 := own_n q837_13.lt
        have sn837_14 := X828.sf K837 (allS ⟨S828, ge829⟩ all0) (X828.sfN q837_14)
        have sn837_15 := X828.sf K837 (allS ⟨S828, ge829⟩ all0) (X828.sfN q837_15)
        have sn837_16 := X828.sf K837 (allS ⟨S828, ge829⟩ all0) (X828.sfN q837_16)
        have sn837_17 := X828.sf K837 (allS ⟨S828, ge829⟩ all0) (X828.sfN q837_17)
        obtain ⟨or1, or2, or3⟩ := q837_18
        have lB1 : (own_put (List.replicate 16 (0 : Int32)) 0 cs_818).length = 16 := by rw [own_put_len (by rw [List.length_replicate]; omega)]; simp
        refine k_astore X837 at_166 rfl (Ls' := #[.val (.int p0), .val (.int p1), .val (.int p2), .val (.int p3), .val (.int p4), .val (.int p5), .val (.int (1 : Int32)), .val (.int l1), .val (.int l2), .val (.int pbv), .val (.ref r_815), .val (.ref r_821), .val (.int d1), .val (.int d2), .val (.int k), .val (.int j), .val (.int e1), .val (.int e2), .val (.ref b828), .unset, .unset, .unset, .unset, .unset]) rfl (pc' := 168) rfl ?_
        refine k_aload X837 at_168 rfl rfl (pc' := 170) rfl ?_
        refine k_iload X837 at_170 rfl (pc' := 172) rfl ?_
        refine k_aload X837 at_172 rfl rfl (pc' := 174) rfl ?_
        have c839 := ((fj827_0.keep K828).keep K837)
        have ne840 : (r_815 : Nat) ≠ b828 := own_ne (by omega)
        have c841 := ((fj827_1.keep K828 nin0).keep K837 (ninS ne840 nin0))
        have c842 := ((fj827_2.keep K828 nin0).keep K837 (ninS ne840 nin0))
        have ne843 : (t_816 : Nat) ≠ b828 := own_ne (by omega)
        have c844 := ((fj827_3.keep K828 nin0).keep K837 (ninS ne843 nin0))
        have ge845 : n0 ≤ sb_830 := by omega
        have ge846 : n0 ≤ bv_831 := by omega
        have ge847 : n0 ≤ dp_832 := by omega
        have ge848 : n0 ≤ sp_833 := by omega
        have c849 := (X828.sf K837 (allS ⟨S828, ge829⟩ all0) S828)
        refine k_callVNF X837 (y := (⟨"com/example/colophon/colophon/OpenIds", "startElement", "(ILjava/lang/String;)V"⟩ : MethodName)) at_174 (w_68 hw) (w_69 hw) (w_71 hw) (w_70 hw) (w_38 hw) (w_72 hw) (by decide) (notFace_of_selects (args := #[]) (mvT X837.hZ (w_71 hw))) q837_0 (argsL := [(.int d1), (.ref r_815)]) (rest := []) (own_st0 l Z a0 hw G n0 h837 X837.old b828 sb_830 dp_832 sp_833 kd_835 ks_836 bv_831 kb_834 (0 : Int32) (List.replicate 16 (0 : Int32)) (0 : Int32) d1 r_815 t_816 kt_817 cs_818 0 rfl (by simp) (by omega) (m1.1) (by simp only [own_far, List.forall_mem_cons, List.not_mem_nil, false_implies, implies_true, and_true]; omega) (by simp only [own_far, List.forall_mem_cons, List.not_mem_nil, false_implies, implies_true, and_true]; omega) ge829 ge845 ge846 ge847 ge848 q837_0 q837_1 q837_2 q837_3 q837_4 q837_5 q837_6 q837_7 q837_8 q837_9 q837_10 q837_11 q837_12 q837_13 c839 c841 c842 c844) rfl pd_13 rfl rfl (by decide) (W := 0) (Nat.le_of_eq rfl) (by decide) (by decide) (by decide) (allS ⟨c849, ge829⟩ (allS ⟨sn837_14, ge845⟩ (allS ⟨sn837_15, ge846⟩ (allS ⟨sn837_16, ge847⟩ (allS ⟨sn837_17, ge848⟩ all0))))) (pc' := 177) rfl ?_
        rintro T850 h850 L850 X850 K850 ⟨q850_0, q850_1, q850_2, q850_3, q850_4, q850_5, q850_6, q850_7, q850_8, q850_9, q850_10, q850_11, q850_12, q850_13⟩
        have sz_h850 := K850.1
        have od851 : h0.size ≤ sp_833 := by omega
        have od852 : h0.size ≤ dp_832 := by omega
        have od853 : h0.size ≤ bv_831 := by omega
        have od854 : h0.size ≤ sb_830 := by omega
        have K0_h850 : Keep h0 h850 [] := K0_h837.trans K850 (allS (Or.inr od838) (allS (Or.inr od854) (allS (Or.inr od853) (allS (Or.inr od852) (allS (Or.inr od851) all0)))))
        have lt850_0 := own_n q850_0.lt
        have lt850_1 := own_n q850_1.lt
        have lt850_2 := own_n q850_2.lt
        have lt850_3 := own_n q850_3.lt
        have lt850_4 := own_n q850_4.lt
        have lt850_5 := own_n q850_5.lt
        have lt850_6 := own_n q850_6.lt
        have lt850_7 := own_n q850_7.lt
        have lt850_8 := own_n q850_8.lt
        have lt850_9 := own_n q850_9.lt
        have lt850_10 := own_n q850_10.lt
        have lt850_11 := own_n q850_11.lt
        have lt850_12 := own_n q850_12.lt
        have lt850_13 := own_n q850_13.lt
        have en1 : (Int32.ofNat (0 + cs_818.length)) = Int32.ofNat cs_818.length := by rw [Nat.zero_add]
        have lB2 : (own_put (own_put (List.replicate 16 (0 : Int32)) 0 cs_818) cs_818.length cs_824).length = 16 := by rw [own_put_len (by rw [lB1]; omega), lB1]
        refine k_aload X850 at_177 rfl rfl (pc' := 179) rfl ?_
        refine k_iload X850 at_179 rfl (pc' := 181) rfl ?_
        refine k_aload X850 at_181 rfl rfl (pc' := 183) rfl ?_
        have c855 := (((fj827_4.keep K828).keep K837).keep K850)
        have ne856 : (r_821 : Nat) ≠ b828 := own_ne (by omega)
        have ne857 : (r_821 : Nat) ≠ sp_833 := own_ne (by omega)
        have ne858 : (r_821 : Nat) ≠ dp_832 := own_ne (by omega)
        have ne859 : (r_821 : Nat) ≠ bv_831 := own_ne (by omega)
        have ne860 : (r_821 : Nat) ≠ sb_830 := own_ne (by omega)
        have c861 := (((fj827_5.keep K828 nin0).keep K837 (ninS ne856 nin0)).keep K850 (ninS ne856 (ninS ne860 (ninS ne859 (ninS ne858 (ninS ne857 nin0))))))
        have c862 := (((fj827_6.keep K828 nin0).keep K837 (ninS ne856 nin0)).keep K850 (ninS ne856 (ninS ne860 (ninS ne859 (ninS ne858 (ninS ne857 nin0))))))
        have ne863 : (t_822 : Nat) ≠ b828 := own_ne (by omega)
        have ne864 : (t_822 : Nat) ≠ sp_833 := own_ne (by omega)
        have ne865 : (t_822 : Nat) ≠ dp_832 := own_ne (by omega)
        have ne866 : (t_822 : Nat) ≠ bv_831 := own_ne (by omega)
        have ne867 : (t_822 : Nat) ≠ sb_830 := own_ne (by omega)
        have c868 := (((fj827_7.keep K828 nin0).keep K837 (ninS ne863 nin0)).keep K850 (ninS ne863 (ninS ne867 (ninS ne866 (ninS ne865 (ninS ne864 nin0))))))
        have c869 := (X837.sf K850 (allS ⟨c849, ge829⟩ (allS ⟨sn837_14, ge845⟩ (allS ⟨sn837_15, ge846⟩ (allS ⟨sn837_16, ge847⟩ (allS ⟨sn837_17, ge848⟩ all0))))) sn837_17)
        have c870 := (X837.sf K850 (allS ⟨c849, ge829⟩ (allS ⟨sn837_14, ge845⟩ (allS ⟨sn837_15, ge846⟩ (allS ⟨sn837_16, ge847⟩ (allS ⟨sn837_17, ge848⟩ all0))))) sn837_16)
        have c871 := (X837.sf K850 (allS ⟨c849, ge829⟩ (allS ⟨sn837_14, ge845⟩ (allS ⟨sn837_15, ge846⟩ (allS ⟨sn837_16, ge847⟩ (allS ⟨sn837_17, ge848⟩ all0))))) sn837_15)
        have c872 := (X837.sf K850 (allS ⟨c849, ge829⟩ (allS ⟨sn837_14, ge845⟩ (allS ⟨sn837_15, ge846⟩ (allS ⟨sn837_16, ge847⟩ (allS ⟨sn837_17, ge848⟩ all0))))) sn837_14)
        have c873 := (X837.sf K850 (allS ⟨c849, ge829⟩ (allS ⟨sn837_14, ge845⟩ (allS ⟨sn837_15, ge846⟩ (allS ⟨sn837_16, ge847⟩ (allS ⟨sn837_17, ge848⟩ all0))))) c849)
        refine k_callVNF X850 (y := (⟨"com/example/colophon/colophon/OpenIds", "startElement", "(ILjava/lang/String;)V"⟩ : MethodName)) at_183 (w_68 hw) (w_69 hw) (w_71 hw) (w_70 hw) (w_38 hw) (w_72 hw) (by decide) (notFace_of_selects (args := #[]) (mvT X850.hZ (w_71 hw))) q850_0 (argsL := [(.int d2), (.ref r_821)]) (rest := []) (own_st1 l Z a0 hw G n0 h850 X850.old b828 sb_830 dp_832 sp_833 kd_835 ks_836 bv_831 kb_834 (Int32.ofNat (0 + cs_818.length)) (own_put (List.replicate 16 (0 : Int32)) 0 cs_818) (0 : Int32) d2 r_821 d1 (0 : Int32) t_822 kt_823 cs_824 r_815 (cs_818.length) en1 lB1 (by omega) (m2.1) (by simp only [own_far, List.forall_mem_cons, List.not_mem_nil, false_implies, implies_true, and_true]; omega) (by simp only [own_far, List.forall_mem_cons, List.not_mem_nil, false_implies, implies_true, and_true]; omega) ge829 ge845 ge846 ge847 ge848 q850_0 q850_1 q850_2 q850_3 q850_4 q850_5 q850_6 q850_7 q850_8 q850_9 q850_10 q850_11 q850_12 q850_13 c855 c861 c862 c868) rfl pd_13 rfl rfl (by decide) (W := 0) (Nat.le_of_eq rfl) (by decide) (by decide) (by decide) (allS ⟨c873, ge829⟩ (allS ⟨c872, ge845⟩ (allS ⟨c871, ge846⟩ (allS ⟨c870, ge847⟩ (allS ⟨c869, ge848⟩ all0))))) (pc' := 186) rfl ?_
        rintro T874 h874 L874 X874 K874 ⟨q874_0, q874_1, q874_2, q874_3, q874_4, q874_5, q874_6, q874_7, q874_8, q874_9, q874_10, q874_11, q874_12, q874_13⟩
        have sz_h874 := K874.1
        have K0_h874 : Keep h0 h874 [] := K0_h850.trans K874 (allS (Or.inr od838) (allS (Or.inr od854) (allS (Or.inr od853) (allS (Or.inr od852) (allS (Or.inr od851) all0)))))
        have lt874_0 := own_n q874_0.lt
        have lt874_1 := own_n q874_1.lt
        have lt874_2 := own_n q874_2.lt
        have lt874_3 := own_n q874_3.lt
        have lt874_4 := own_n q874_4.lt
        have lt874_5 := own_n q874_5.lt
        have lt874_6 := own_n q874_6.lt
        have lt874_7 := own_n q874_7.lt
        have lt874_8 := own_n q874_8.lt
        have lt874_9 := own_n q874_9.lt
        have lt874_10 := own_n q874_10.lt
        have lt874_11 := own_n q874_11.lt
        have lt874_12 := own_n q874_12.lt
        have lt874_13 := own_n q874_13.lt
        have hoi1 : b828 < r_815 ∨ r_815 < b828 := by omega
        have hot1 : b828 < t_816 ∨ t_816 < b828 := by omega
        have hfr5 : own_far [b828, sb_830, bv_831, dp_832, sp_833] := (by simp only [own_far, List.forall_mem_cons, List.not_mem_nil, false_implies, implies_true, and_true]; omega)
        have j875 : ∀ (Tj875 : State) (hj875 : Heap) (Lj875 : List Loc) (vj875 : Vm), WP p l e room_1 (s.setVm vj875) m #[(.int p0), (.int p1), (.int p2), (.int p3), (.int p4), (.int p5)] below meth c Z "com/example/colophon/colophon/OpenIdsEndElementPinLaw" "law" code 24 (some .boolean) n0 (InvH Z a0 EL s vj875) (Safe Z EL vj875) Tj875 hj875 Lj875 17 81 → Keep h0 hj875 [] → Exa Z hj875 r_815 "java/lang/String" → Fld Z hj875 r_815 "java/lang/String" "value" "[B" (.ref t_816) → Fld Z hj875 r_815 "java/lang/String" "coder" "B" (.int (0 : Int32)) → Arv Z hj875 t_816 kt_817 .byte (Int32.ofNat cs_818.length) (own_lat cs_818) (.int (0 : Int32)) → Exa Z hj875 r_821 "java/lang/String" → Fld Z hj875 r_821 "java/lang/String" "value" "[B" (.ref t_822) → Fld Z hj875 r_821 "java/lang/String" "coder" "B" (.int (0 : Int32)) → Arv Z hj875 t_822 kt_823 .byte (Int32.ofNat cs_824.length) (own_lat cs_824) (.int (0 : Int32)) → Exa Z hj875 b828 "com/example/colophon/colophon/OpenIds" → Fld Z hj875 b828 "com/example/colophon/colophon/OpenIds" "characters" "Ljava/lang/StringBuilder;" (.ref sb_830) → Fld Z hj875 b828 "com/example/colophon/colophon/OpenIds" "depths" "[I" (.ref dp_832) → Fld Z hj875 b828 "com/example/colophon/colophon/OpenIds" "starts" "[I" (.ref sp_833) → Fld Z hj875 b828 "com/example/colophon/colophon/OpenIds" "count" "I" (.int (2 : Int32)) → Fld Z hj875 b828 "com/example/colophon/colophon/OpenIds" "innermost" "Ljava/lang/String;" (.ref r_821) → Exa Z hj875 sb_830 "java/lang/StringBuilder" → Fld Z hj875 sb_830 "java/lang/AbstractStringBuilder" "value" "[B" (.ref bv_831) → Fld Z hj875 sb_830 "java/lang/AbstractStringBuilder" "coder" "B" (.int (0 : Int32)) → Fld Z hj875 sb_830 "java/lang/AbstractStringBuilder" "count" "I" (.int (Int32.ofNat ((cs_818.length) + cs_824.length))) → Fld Z hj875 sb_830 "java/lang/AbstractStringBuilder" "maybeLatin1" "Z" (.int (0 : Int32)) → Arv Z hj875 bv_831 kb_834 .byte (16 : Int32) (own_lat (own_put (own_put (List.replicate 16 (0 : Int32)) 0 cs_818) (cs_818.length) cs_824)) (.int (0 : Int32)) → Arv Z hj875 dp_832 kd_835 .int (16 : Int32) [(.int d1), (.int d2), (.int (0 : Int32)), (.int (0 : Int32)), (.int (0 : Int32)), (.int (0 : Int32)), (.int (0 : Int32)), (.int (0 : Int32)), (.int (0 : Int32)), (.int (0 : Int32)), (.int (0 : Int32)), (.int (0 : Int32)), (.int (0 : Int32)), (.int (0 : Int32)), (.int (0 : Int32)), (.int (0 : Int32))] (.int (0 : Int32)) → Arv Z hj875 sp_833 ks_836 .int (16 : Int32) [(.int (0 : Int32)), (.int (Int32.ofNat (0 + cs_818.length))), (.int (0 : Int32)), (.int (0 : Int32)), (.int (0 : Int32)), (.int (0 : Int32)), (.int (0 : Int32)), (.int (0 : Int32)), (.int (0 : Int32)), (.int (0 : Int32)), (.int (0 : Int32)), (.int (0 : Int32)), (.int (0 : Int32)), (.int (0 : Int32)), (.int (0 : Int32)), (.int (0 : Int32))] (.int (0 : Int32)) → Safe Z EL vj875 hj875 bv_831 → Run p.tables e below (PH Z EL s below n0 h0 [] (fun r v' h' => ∃ w, r = some w ∧ w = .int (1 : Int32) ∧ True) room_1.cells room_1.slots) Tj875 (mkF m 232 #[.val (.int p0), .val (.int p1), .val (.int p2), .val (.int p3), .val (.int p4), .val (.int p5), .val (.int (1 : Int32)), .val (.int l1), .val (.int l2), .val (.int pbv), .val (.ref r_815), .val (.ref r_821), .val (.int d1), .val (.int d2), .val (.int k), .val (.int j), .val (.int e1), .val (.int e2), .val (.ref b828), .val (.int (2 : Int32)), .unset, .unset, .unset, .unset] []) := by
          intro Tj875 hj875 Lj875 vj875   Xj875 Kj875 fj875_0 fj875_1 fj875_2 fj875_3 fj875_4 fj875_5 fj875_6 fj875_7 fj875_8 fj875_9 fj875_10 fj875_11 fj875_12 fj875_13 fj875_14 fj875_15 fj875_16 fj875_17 fj875_18 fj875_19 fj875_20 fj875_21 fj875_22
          have nlej875 := Xj875.n0le
          have lhj875 := Kj875.1
          have ltj875_0 := own_n fj875_0.lt
          have ltj875_3 := own_n fj875_3.lt
          have ltj875_4 := own_n fj875_4.lt
          have ltj875_7 := own_n fj875_7.lt
          have ltj875_8 := own_n fj875_8.lt
          have ltj875_14 := own_n fj875_14.lt
          have ltj875_19 := own_n fj875_19.lt
          have ltj875_20 := own_n fj875_20.lt
          have ltj875_21 := own_n fj875_21.lt
          rcases hR with ⟨hk0, he1, he2⟩ | ⟨hk0, he1, he2⟩
          · subst he1 he2
            subst hk0
            refine k_iload Xj875 at_232 rfl (pc' := 234) rfl ?_
            refine k_ifNo Xj875 at_234 (by decide) (pc' := 237) rfl ?_
            refine k_iload Xj875 at_237 rfl (pc' := 239) rfl ?_
            refine k_ifNo Xj875 at_239 (by decide) (pc' := 242) rfl ?_
            refine k_iconst Xj875 at_242 (w := (1 : Int32)) rfl (pc' := 243) rfl ?_
            refine k_goto Xj875 at_243 (pc' := 247) (by decide) (by decide) ?_
            refine k_istore Xj875 at_247 (Ls' := #[.val (.int p0), .val (.int p1), .val (.int p2), .val (.int p3), .val (.int p4), .val (.int p5), .val (.int (1 : Int32)), .val (.int l1), .val (.int l2), .val (.int pbv), .val (.ref r_815), .val (.ref r_821), .val (.int d1), .val (.int d2), .val (.int (0 : Int32)), .val (.int j), .val (.int d2), .val (.int (d1 + j)), .val (.ref b828), .val (.int (2 : Int32)), .val (.int (1 : Int32)), .unset, .unset, .unset]) rfl (pc' := 249) rfl ?_
            refine k_iload Xj875 at_249 rfl (pc' := 251) rfl ?_
            refine k_ifNo Xj875 at_251 (by decide) (pc' := 254) rfl ?_
            refine k_iload Xj875 at_254 rfl (pc' := 256) rfl ?_
            refine k_iconst Xj875 at_256 (w := (1 : Int32)) rfl (pc' := 257) rfl ?_
            refine k_isub Xj875 at_257 (w := (1 : Int32)) (by decide) (pc' := 258) rfl ?_
            refine k_goto Xj875 at_258 (pc' := 263) (by decide) (by decide) ?_
            refine k_istore Xj875 at_263 (Ls' := #[.val (.int p0), .val (.int p1), .val (.int p2), .val (.int p3), .val (.int p4), .val (.int p5), .val (.int (1 : Int32)), .val (.int l1), .val (.int l2), .val (.int pbv), .val (.ref r_815), .val (.ref r_821), .val (.int d1), .val (.int d2), .val (.int (0 : Int32)), .val (.int j), .val (.int d2), .val (.int (d1 + j)), .val (.ref b828), .val (.int (2 : Int32)), .val (.int (1 : Int32)), .val (.int (1 : Int32)), .unset, .unset]) rfl (pc' := 265) rfl ?_
            refine k_aload Xj875 at_265 rfl rfl (pc' := 267) rfl ?_
            refine k_iload Xj875 at_267 rfl (pc' := 269) rfl ?_
            refine k_callVNF Xj875 (y := (⟨"com/example/colophon/colophon/OpenIds", "endElement", "(I)V"⟩ : MethodName)) at_269 (w_133 hw) (w_134 hw) (w_136 hw) (w_135 hw) (w_38 hw) (w_137 hw) (by decide) (notFace_of_selects (args := #[]) (mvT Xj875.hZ (w_136 hw))) fj875_8 (argsL := [(.int d2)]) (rest := []) (own_enYes2 l Z a0 hw G n0 hj875 Xj875.old b828 sb_830 dp_832 sp_833 kd_835 ks_836 bv_831 kb_834 (Int32.ofNat ((cs_818.length) + cs_824.length)) (own_put (own_put (List.replicate 16 (0 : Int32)) 0 cs_818) (cs_818.length) cs_824) (0 : Int32) d2 r_821 d1 d2 (0 : Int32) (Int32.ofNat (0 + cs_818.length)) (cs_818.length + cs_824.length) (cs_818.length) rfl en1 rfl (by omega) (by omega) hfr5 ge829 ge845 fj875_8 fj875_9 fj875_10 fj875_11 fj875_12 fj875_13 fj875_14 fj875_15 fj875_16 fj875_17 fj875_18 fj875_19 fj875_20 fj875_21) rfl pd_9 rfl rfl (by decide) (W := 0) (Nat.le_of_eq rfl) (by decide) (by decide) (by decide) (allS ⟨(Xj875.sfE fj875_8), ge829⟩ (allS ⟨(Xj875.sfE fj875_14), ge845⟩ all0)) (pc' := 272) rfl ?_
            rintro T877 h877 L877 X877 K877 ⟨mc_876, q877_0, q877_1, q877_2, q877_3, q877_4, q877_5, q877_6, q877_7, q877_8, q877_9, q877_10⟩
            have sz_h877 := K877.1
            have K0_h877 : Keep h0 h877 [] := Kj875.trans K877 (allS (Or.inr od838) (allS (Or.inr od854) all0))
            have lt877_0 := own_n q877_0.lt
            have lt877_1 := own_n q877_1.lt
            have lt877_2 := own_n q877_2.lt
            have lt877_3 := own_n q877_3.lt
            have lt877_4 := own_n q877_4.lt
            have lt877_5 := own_n q877_5.lt
            have lt877_6 := own_n q877_6.lt
            have lt877_7 := own_n q877_7.lt
            have lt877_8 := own_n q877_8.lt
            have lt877_9 := own_n q877_9.lt
            have lt877_10 := own_n q877_10.lt
            refine k_aload X877 at_272 rfl rfl (pc' := 274) rfl ?_
            refine k_iload X877 at_274 rfl (pc' := 276) rfl ?_
            refine k_aload X877 at_276 rfl rfl (pc' := 278) rfl ?_
            refine k_aload X877 at_278 rfl rfl (pc' := 280) rfl ?_
            refine k_iload X877 at_280 rfl (pc' := 282) rfl ?_
            refine k_iload X877 at_282 rfl (pc' := 284) rfl ?_
            have ne878 : (bv_831 : Nat) ≠ sb_830 := own_ne (by omega)
            have ne879 : (bv_831 : Nat) ≠ b828 := own_ne (by omega)
            have c880 := (fj875_19.keep K877 (ninS ne879 (ninS ne878 nin0)))
            have ne881 : (sp_833 : Nat) ≠ sb_830 := own_ne (by omega)
            have ne882 : (sp_833 : Nat) ≠ b828 := own_ne (by omega)
            have c883 := (fj875_21.keep K877 (ninS ne882 (ninS ne881 nin0)))
            have c884 := (fj875_0.keep K877)
            have ne885 : (r_815 : Nat) ≠ sb_830 := own_ne (by omega)
            have c886 := (fj875_1.keep K877 (ninS ne840 (ninS ne885 nin0)))
            have c887 := (fj875_2.keep K877 (ninS ne840 (ninS ne885 nin0)))
            have ne888 : (t_816 : Nat) ≠ sb_830 := own_ne (by omega)
            have c889 := (fj875_3.keep K877 (ninS ne843 (ninS ne888 nin0)))
            refine k_callSVH X877 (y := (⟨"com/example/colophon/colophon/OpenIdsEndElementPinLaw", "state", "(Lcom/example/colophon/colophon/OpenIds;ILjava/lang/String;Ljava/lang/String;II)Z"⟩ : MethodName)) at_284 (w_138 hw) (w_139 hw) (w_2 hw) (w_140 hw) (by decide) (argsL := [(.ref b828), (.int (1 : Int32)), (.ref r_815), (.ref r_821), (.int l1), (.int l2)]) (rest := []) (own_stt1s l Z a0 hw G n0 h877 X877.old b828 r_815 l1 l2 r_821 sb_830 dp_832 sp_833 ks_836 bv_831 kb_834 (own_put (own_put (List.replicate 16 (0 : Int32)) 0 cs_818) (cs_818.length) cs_824) (cs_818.length) (Int32.ofNat (0 + cs_818.length)) en1 (by omega) lB2 hfr5 (Int32.ofNat (0 + cs_818.length)) cs_818 t_816 kt_817 (m1.1) rfl (en1.trans m1.2.2.symm) (by rw [own_put_low (Nat.le_refl _) (by rw [lB1]; omega)]; exact own_put_all) hoi1 hot1 ge829 q877_0 q877_1 q877_2 q877_3 q877_4 q877_5 q877_6 q877_7 q877_8 q877_9 c880 c883 c884 c886 c887 c889) rfl pd_27 rfl rfl (by decide) (W := 0) (Nat.le_of_eq rfl) (by decide) (by decide) (by decide) (allS ⟨⟨own_n (by omega), (X877.sfE q877_0)⟩, ge829⟩ all0) (pc' := 287) rfl ?_
            rintro _ v893 T893 h893 L893 X893 K893 C893 ⟨r_890, t9_891, kt9_892, rfl, q893_0, q893_1, q893_2, q893_3, q893_4, q893_5, q893_6, q893_7, q893_8, q893_9⟩
            have sz_h893 := K893.1
            have K0_h893 : Keep h0 h893 [] := K0_h877.trans K893 (allS (Or.inr od838) all0)
            have lt893_0 := own_n q893_0.lt
            have lt893_1 := own_n q893_1.lt
            have lt893_2 := own_n q893_2.lt
            have lt893_3 := own_n q893_3.lt
            have lt893_4 := own_n q893_4.lt
            have lt893_5 := own_n q893_5.lt
            have lt893_6 := own_n q893_6.lt
            have lt893_7 := own_n q893_7.lt
            have lt893_8 := own_n q893_8.lt
            have lt893_9 := own_n q893_9.lt
            refine k_ifYes X893 at_287 (by decide) (pc' := 292) (by decide) (by decide) ?_
            refine k_iload X893 at_292 rfl (pc' := 294) rfl ?_
            refine k_ifNo X893 at_294 (by decide) (pc' := 297) rfl ?_
            by_cases hc895 : j = (0 : Int32)
            · subst hc895
              refine k_iload X893 at_297 rfl (pc' := 299) rfl ?_
              refine k_ifNo X893 at_299 (by decide) (pc' := 302) rfl ?_
              refine k_iconst X893 at_302 (w := (1 : Int32)) rfl (pc' := 303) rfl ?_
              refine k_goto X893 at_303 (pc' := 325) (by decide) (by decide) ?_
              refine k_istore X893 at_325 (Ls' := #[.val (.int p0), .val (.int p1), .val (.int p2), .val (.int p3), .val (.int p4), .val (.int p5), .val (.int (1 : Int32)), .val (.int l1), .val (.int l2), .val (.int pbv), .val (.ref r_815), .val (.ref r_821), .val (.int d1), .val (.int d2), .val (.int (0 : Int32)), .val (.int (0 : Int32)), .val (.int d2), .val (.int (d1 + (0 : Int32))), .val (.ref b828), .val (.int (2 : Int32)), .val (.int (1 : Int32)), .val (.int (1 : Int32)), .val (.int (1 : Int32)), .unset]) rfl (pc' := 327) rfl ?_
              refine k_iload X893 at_327 rfl (pc' := 329) rfl ?_
              refine k_ifNo X893 at_329 (by decide) (pc' := 332) rfl ?_
              refine k_iload X893 at_332 rfl (pc' := 334) rfl ?_
              refine k_iconst X893 at_334 (w := (1 : Int32)) rfl (pc' := 335) rfl ?_
              refine k_isub X893 at_335 (w := (0 : Int32)) (by decide) (pc' := 336) rfl ?_
              refine k_goto X893 at_336 (pc' := 341) (by decide) (by decide) ?_
              refine k_istore X893 at_341 (Ls' := #[.val (.int p0), .val (.int p1), .val (.int p2), .val (.int p3), .val (.int p4), .val (.int p5), .val (.int (1 : Int32)), .val (.int l1), .val (.int l2), .val (.int pbv), .val (.ref r_815), .val (.ref r_821), .val (.int d1), .val (.int d2), .val (.int (0 : Int32)), .val (.int (0 : Int32)), .val (.int d2), .val (.int (d1 + (0 : Int32))), .val (.ref b828), .val (.int (2 : Int32)), .val (.int (1 : Int32)), .val (.int (1 : Int32)), .val (.int (1 : Int32)), .val (.int (0 : Int32))]) rfl (pc' := 343) rfl ?_
              refine k_aload X893 at_343 rfl rfl (pc' := 345) rfl ?_
              refine k_iload X893 at_345 rfl (pc' := 347) rfl ?_
              have c896 := (q877_6.keep K893)
              have ne897 : (sb_830 : Nat) ≠ b828 := own_ne (by omega)
              have c898 := (q877_7.keep K893 (ninS ne897 nin0))
              have c899 := (q877_8.keep K893 (ninS ne897 nin0))
              have c900 := (q877_9.keep K893 (ninS ne897 nin0))
              have c901 := (q877_10.keep K893 (ninS ne897 nin0))
              have c902 := (c880.keep K893 (ninS ne879 nin0))
              have ne903 : (dp_832 : Nat) ≠ sb_830 := own_ne (by omega)
              have ne904 : (dp_832 : Nat) ≠ b828 := own_ne (by omega)
              have c905 := ((fj875_20.keep K877 (ninS ne904 (ninS ne903 nin0))).keep K893 (ninS ne904 nin0))
              have c906 := (c883.keep K893 (ninS ne882 nin0))
              refine k_callVNF X893 (y := (⟨"com/example/colophon/colophon/OpenIds", "endElement", "(I)V"⟩ : MethodName)) at_347 (w_133 hw) (w_134 hw) (w_136 hw) (w_135 hw) (w_38 hw) (w_137 hw) (by decide) (notFace_of_selects (args := #[]) (mvT X893.hZ (w_136 hw))) q893_0 (argsL := [(.int (d1 + (0 : Int32)))]) (rest := []) (own_enYes1 l Z a0 hw G n0 h893 X893.old b828 sb_830 dp_832 sp_833 kd_835 ks_836 bv_831 kb_834 (Int32.ofNat (0 + cs_818.length)) (own_put (own_put (List.replicate 16 (0 : Int32)) 0 cs_818) (cs_818.length) cs_824) mc_876 (d1 + (0 : Int32)) r_890 d1 d2 (0 : Int32) (Int32.ofNat (0 + cs_818.length)) (cs_818.length) 0 (Int32.add_zero _).symm rfl en1 (by omega) (by omega) hfr5 ge829 ge845 q893_0 q893_1 q893_2 q893_3 q893_4 q893_5 c896 c898 c899 c900 c901 c902 c905 c906) rfl pd_9 rfl rfl (by decide) (W := 0) (Nat.le_of_eq rfl) (by decide) (by decide) (by decide) (allS ⟨(X893.sfE q893_0), ge829⟩ (allS ⟨(X893.sfE c896), ge845⟩ all0)) (pc' := 350) rfl ?_
              rintro T908 h908 L908 X908 K908 ⟨mc_907, q908_0, q908_1, q908_2, q908_3, q908_4, q908_5, q908_6, q908_7, q908_8, q908_9, q908_10⟩
              have sz_h908 := K908.1
              have K0_h908 : Keep h0 h908 [] := K0_h893.trans K908 (allS (Or.inr od838) (allS (Or.inr od854) all0))
              have lt908_0 := own_n q908_0.lt
              have lt908_1 := own_n q908_1.lt
              have lt908_2 := own_n q908_2.lt
              have lt908_3 := own_n q908_3.lt
              have lt908_4 := own_n q908_4.lt
              have lt908_5 := own_n q908_5.lt
              have lt908_6 := own_n q908_6.lt
              have lt908_7 := own_n q908_7.lt
              have lt908_8 := own_n q908_8.lt
              have lt908_9 := own_n q908_9.lt
              have lt908_10 := own_n q908_10.lt
              refine k_aload X908 at_350 rfl rfl (pc' := 352) rfl ?_
              refine k_iload X908 at_352 rfl (pc' := 354) rfl ?_
              refine k_aload X908 at_354 rfl rfl (pc' := 356) rfl ?_
              refine k_aload X908 at_356 rfl rfl (pc' := 358) rfl ?_
              refine k_iload X908 at_358 rfl (pc' := 360) rfl ?_
              refine k_iload X908 at_360 rfl (pc' := 362) rfl ?_
              refine k_callSVF X908 (y := (⟨"com/example/colophon/colophon/OpenIdsEndElementPinLaw", "state", "(Lcom/example/colophon/colophon/OpenIds;ILjava/lang/String;Ljava/lang/String;II)Z"⟩ : MethodName)) at_362 (w_138 hw) (w_139 hw) (w_2 hw) (w_140 hw) (by decide) (argsL := [(.ref b828), (.int (0 : Int32)), (.ref r_815), (.ref r_821), (.int l1), (.int l2)]) (rest := []) (own_stt0r l Z a0 hw G n0 h908 X908.old b828 r_815 l1 l2 r_821 sb_830 q908_0 q908_5 q908_4 q908_1 q908_6 q908_9) rfl pd_27 rfl rfl (by decide) (W := 0) (Nat.le_of_eq rfl) (by decide) (by decide) (by decide) all0 (pc' := 365) rfl ?_
              rintro _ T909 h909 L909 X909 K909 ⟨rfl, -⟩
              have sz_h909 := K909.1
              have K0_h909 : Keep h0 h909 [] := K0_h908.trans K909 all0
              exact k_retHN X909 (w := (1 : Int32)) at_365 (t := .boolean) rfl (by simp) rfl K0_h909 (fun v' C' => ⟨_, rfl, rfl, trivial⟩) (by decide) (by decide)
            · refine k_iload X893 at_297 rfl (pc' := 299) rfl ?_
              refine k_ifYes X893 at_299 ((if0 _ _).trans (feq hc895).2) (pc' := 306) (by decide) (by decide) ?_
              refine k_iconst X893 at_306 (w := (0 : Int32)) rfl (pc' := 307) rfl ?_
              refine k_goto X893 at_307 (pc' := 325) (by decide) (by decide) ?_
              refine k_istore X893 at_325 (Ls' := #[.val (.int p0), .val (.int p1), .val (.int p2), .val (.int p3), .val (.int p4), .val (.int p5), .val (.int (1 : Int32)), .val (.int l1), .val (.int l2), .val (.int pbv), .val (.ref r_815), .val (.ref r_821), .val (.int d1), .val (.int d2), .val (.int (0 : Int32)), .val (.int j), .val (.int d2), .val (.int (d1 + j)), .val (.ref b828), .val (.int (2 : Int32)), .val (.int (1 : Int32)), .val (.int (1 : Int32)), .val (.int (0 : Int32)), .unset]) rfl (pc' := 327) rfl ?_
              refine k_iload X893 at_327 rfl (pc' := 329) rfl ?_
              refine k_ifYes X893 at_329 (by decide) (pc' := 339) (by decide) (by decide) ?_
              refine k_iload X893 at_339 rfl (pc' := 341) rfl ?_
              refine k_istore X893 at_341 (Ls' := #[.val (.int p0), .val (.int p1), .val (.int p2), .val (.int p3), .val (.int p4), .val (.int p5), .val (.int (1 : Int32)), .val (.int l1), .val (.int l2), .val (.int pbv), .val (.ref r_815), .val (.ref r_821), .val (.int d1), .val (.int d2), .val (.int (0 : Int32)), .val (.int j), .val (.int d2), .val (.int (d1 + j)), .val (.ref b828), .val (.int (2 : Int32)), .val (.int (1 : Int32)), .val (.int (1 : Int32)), .val (.int (0 : Int32)), .val (.int (1 : Int32))]) rfl (pc' := 343) rfl ?_
              refine k_aload X893 at_343 rfl rfl (pc' := 345) rfl ?_
              refine k_iload X893 at_345 rfl (pc' := 347) rfl ?_
              have ne911 : (dp_832 : Nat) ≠ sb_830 := own_ne (by omega)
              have ne912 : (dp_832 : Nat) ≠ b828 := own_ne (by omega)
              have c913 := ((fj875_20.keep K877 (ninS ne912 (ninS ne911 nin0))).keep K893 (ninS ne912 nin0))
              refine k_callVNF X893 (y := (⟨"com/example/colophon/colophon/OpenIds", "endElement", "(I)V"⟩ : MethodName)) at_347 (w_133 hw) (w_134 hw) (w_136 hw) (w_135 hw) (w_38 hw) (w_137 hw) (by decide) (notFace_of_selects (args := #[]) (mvT X893.hZ (w_136 hw))) q893_0 (argsL := [(.int (d1 + j))]) (rest := []) (own_enNo1 l Z a0 hw G n0 h893 X893.old b828 dp_832 kd_835 (d1 + j) d1 d2 (own_addne hc895) q893_4 q893_2 c913) rfl pd_9 rfl rfl (by decide) (W := 0) (Nat.le_of_eq rfl) (by decide) (by decide) (by decide) all0 (pc' := 350) rfl ?_
              rintro T914 h914 L914 X914 K914 -
              have sz_h914 := K914.1
              have K0_h914 : Keep h0 h914 [] := K0_h893.trans K914 all0
              refine k_aload X914 at_350 rfl rfl (pc' := 352) rfl ?_
              refine k_iload X914 at_352 rfl (pc' := 354) rfl ?_
              refine k_aload X914 at_354 rfl rfl (pc' := 356) rfl ?_
              refine k_aload X914 at_356 rfl rfl (pc' := 358) rfl ?_
              refine k_iload X914 at_358 rfl (pc' := 360) rfl ?_
              refine k_iload X914 at_360 rfl (pc' := 362) rfl ?_
              have c915 := (q893_0.keep K914)
              have c916 := (q893_5.keep K914 nin0)
              have c917 := (q893_1.keep K914 nin0)
              have c918 := ((q877_6.keep K893).keep K914)
              have ne919 : (sb_830 : Nat) ≠ b828 := own_ne (by omega)
              have c920 := ((q877_9.keep K893 (ninS ne919 nin0)).keep K914 nin0)
              have c921 := ((c884.keep K893).keep K914)
              have c922 := ((c886.keep K893 (ninS ne840 nin0)).keep K914 nin0)
              have c923 := ((c887.keep K893 (ninS ne840 nin0)).keep K914 nin0)
              have c924 := ((c889.keep K893 (ninS ne843 nin0)).keep K914 nin0)
              have c925 := (q893_6.keep K914)
              have c926 := (q893_7.keep K914 nin0)
              have c927 := (q893_8.keep K914 nin0)
              have c928 := (q893_9.keep K914 nin0)
              refine k_callSVF X914 (y := (⟨"com/example/colophon/colophon/OpenIdsEndElementPinLaw", "state", "(Lcom/example/colophon/colophon/OpenIds;ILjava/lang/String;Ljava/lang/String;II)Z"⟩ : MethodName)) at_362 (w_138 hw) (w_139 hw) (w_2 hw) (w_140 hw) (by decide) (argsL := [(.ref b828), (.int (1 : Int32)), (.ref r_815), (.ref r_821), (.int l1), (.int l2)]) (rest := []) (own_stt1r l Z a0 hw G n0 h914 X914.old b828 r_815 l1 l2 r_821 sb_830 r_890 (Int32.ofNat (0 + cs_818.length)) cs_818 t_816 kt_817 t9_891 kt9_892 (m1.1) (by omega) (en1.trans m1.2.2.symm) c915 c916 c917 c918 c920 c921 c922 c923 c924 c925 c926 c927 c928) rfl pd_27 rfl rfl (by decide) (W := 0) (Nat.le_of_eq rfl) (by decide) (by decide) (by decide) all0 (pc' := 365) rfl ?_
              rintro _ T929 h929 L929 X929 K929 ⟨rfl, -⟩
              have sz_h929 := K929.1
              have K0_h929 : Keep h0 h929 [] := K0_h914.trans K929 all0
              exact k_retHN X929 (w := (1 : Int32)) at_365 (t := .boolean) rfl (by simp) rfl K0_h929 (fun v' C' => ⟨_, rfl, rfl, trivial⟩) (by decide) (by decide)
          · subst he1 he2
            refine k_iload Xj875 at_232 rfl (pc' := 234) rfl ?_
            refine k_ifNo Xj875 at_234 (by decide) (pc' := 237) rfl ?_
            refine k_iload Xj875 at_237 rfl (pc' := 239) rfl ?_
            refine k_ifYes Xj875 at_239 ((if0 _ _).trans (feq hk0).2) (pc' := 246) (by decide) (by decide) ?_
            refine k_iconst Xj875 at_246 (w := (0 : Int32)) rfl (pc' := 247) rfl ?_
            refine k_istore Xj875 at_247 (Ls' := #[.val (.int p0), .val (.int p1), .val (.int p2), .val (.int p3), .val (.int p4), .val (.int p5), .val (.int (1 : Int32)), .val (.int l1), .val (.int l2), .val (.int pbv), .val (.ref r_815), .val (.ref r_821), .val (.int d1), .val (.int d2), .val (.int k), .val (.int j), .val (.int (d2 + k)), .val (.int (d2 + j)), .val (.ref b828), .val (.int (2 : Int32)), .val (.int (0 : Int32)), .unset, .unset, .unset]) rfl (pc' := 249) rfl ?_
            refine k_iload Xj875 at_249 rfl (pc' := 251) rfl ?_
            refine k_ifYes Xj875 at_251 (by decide) (pc' := 261) (by decide) (by decide) ?_
            refine k_iload Xj875 at_261 rfl (pc' := 263) rfl ?_
            refine k_istore Xj875 at_263 (Ls' := #[.val (.int p0), .val (.int p1), .val (.int p2), .val (.int p3), .val (.int p4), .val (.int p5), .val (.int (1 : Int32)), .val (.int l1), .val (.int l2), .val (.int pbv), .val (.ref r_815), .val (.ref r_821), .val (.int d1), .val (.int d2), .val (.int k), .val (.int j), .val (.int (d2 + k)), .val (.int (d2 + j)), .val (.ref b828), .val (.int (2 : Int32)), .val (.int (0 : Int32)), .val (.int (2 : Int32)), .unset, .unset]) rfl (pc' := 265) rfl ?_
            refine k_aload Xj875 at_265 rfl rfl (pc' := 267) rfl ?_
            refine k_iload Xj875 at_267 rfl (pc' := 269) rfl ?_
            refine k_callVNF Xj875 (y := (⟨"com/example/colophon/colophon/OpenIds", "endElement", "(I)V"⟩ : MethodName)) at_269 (w_133 hw) (w_134 hw) (w_136 hw) (w_135 hw) (w_38 hw) (w_137 hw) (by decide) (notFace_of_selects (args := #[]) (mvT Xj875.hZ (w_136 hw))) fj875_8 (argsL := [(.int (d2 + k))]) (rest := []) (own_enNo2 l Z a0 hw G n0 hj875 Xj875.old b828 dp_832 kd_835 (d2 + k) d1 d2 (own_addne hk0) fj875_12 fj875_10 fj875_20) rfl pd_9 rfl rfl (by decide) (W := 0) (Nat.le_of_eq rfl) (by decide) (by decide) (by decide) all0 (pc' := 272) rfl ?_
            rintro T931 h931 L931 X931 K931 -
            have sz_h931 := K931.1
            have K0_h931 : Keep h0 h931 [] := Kj875.trans K931 all0
            refine k_aload X931 at_272 rfl rfl (pc' := 274) rfl ?_
            refine k_iload X931 at_274 rfl (pc' := 276) rfl ?_
            refine k_aload X931 at_276 rfl rfl (pc' := 278) rfl ?_
            refine k_aload X931 at_278 rfl rfl (pc' := 280) rfl ?_
            refine k_iload X931 at_280 rfl (pc' := 282) rfl ?_
            refine k_iload X931 at_282 rfl (pc' := 284) rfl ?_
            have c932 := (fj875_8.keep K931)
            have c933 := (fj875_13.keep K931 nin0)
            have c934 := (fj875_9.keep K931 nin0)
            have c935 := (fj875_14.keep K931)
            have c936 := (fj875_17.keep K931 nin0)
            have c937 := (fj875_4.keep K931)
            have c938 := (fj875_5.keep K931 nin0)
            have c939 := (fj875_6.keep K931 nin0)
            have c940 := (fj875_7.keep K931 nin0)
            refine k_callSVF X931 (y := (⟨"com/example/colophon/colophon/OpenIdsEndElementPinLaw", "state", "(Lcom/example/colophon/colophon/OpenIds;ILjava/lang/String;Ljava/lang/String;II)Z"⟩ : MethodName)) at_284 (w_138 hw) (w_139 hw) (w_2 hw) (w_140 hw) (by decide) (argsL := [(.ref b828), (.int (2 : Int32)), (.ref r_815), (.ref r_821), (.int l1), (.int l2)]) (rest := []) (own_stt2 l Z a0 hw G n0 h931 X931.old b828 r_815 l1 l2 r_821 sb_830 r_821 (Int32.ofNat ((cs_818.length) + cs_824.length)) cs_824 t_822 kt_823 t_822 kt_823 (m2.1) (by omega) (by rw [m1.2.2, m2.2.2]; exact Int32.ofNat_add _ _) c932 c933 c934 c935 c936 c937 c938 c939 c940 c937 c938 c939 c940) rfl pd_27 rfl rfl (by decide) (W := 0) (Nat.le_of_eq rfl) (by decide) (by decide) (by decide) all0 (pc' := 287) rfl ?_
            rintro _ T941 h941 L941 X941 K941 ⟨rfl, -⟩
            have sz_h941 := K941.1
            have K0_h941 : Keep h0 h941 [] := K0_h931.trans K941 all0
            refine k_ifYes X941 at_287 (by decide) (pc' := 292) (by decide) (by decide) ?_
            refine k_iload X941 at_292 rfl (pc' := 294) rfl ?_
            refine k_ifYes X941 at_294 ((if0 _ _).trans (feq hk0).2) (pc' := 310) (by decide) (by decide) ?_
            by_cases hc943 : j = (0 : Int32)
            · subst hc943
              refine k_iload X941 at_310 rfl (pc' := 312) rfl ?_
              refine k_ifNo X941 at_312 (by decide) (pc' := 315) rfl ?_
              refine k_iload X941 at_315 rfl (pc' := 317) rfl ?_
              refine k_ifNo X941 at_317 (by decide) (pc' := 320) rfl ?_
              refine k_iconst X941 at_320 (w := (1 : Int32)) rfl (pc' := 321) rfl ?_
              refine k_goto X941 at_321 (pc' := 325) (by decide) (by decide) ?_
              refine k_istore X941 at_325 (Ls' := #[.val (.int p0), .val (.int p1), .val (.int p2), .val (.int p3), .val (.int p4), .val (.int p5), .val (.int (1 : Int32)), .val (.int l1), .val (.int l2), .val (.int pbv), .val (.ref r_815), .val (.ref r_821), .val (.int d1), .val (.int d2), .val (.int k), .val (.int (0 : Int32)), .val (.int (d2 + k)), .val (.int (d2 + (0 : Int32))), .val (.ref b828), .val (.int (2 : Int32)), .val (.int (0 : Int32)), .val (.int (2 : Int32)), .val (.int (1 : Int32)), .unset]) rfl (pc' := 327) rfl ?_
              refine k_iload X941 at_327 rfl (pc' := 329) rfl ?_
              refine k_ifNo X941 at_329 (by decide) (pc' := 332) rfl ?_
              refine k_iload X941 at_332 rfl (pc' := 334) rfl ?_
              refine k_iconst X941 at_334 (w := (1 : Int32)) rfl (pc' := 335) rfl ?_
              refine k_isub X941 at_335 (w := (1 : Int32)) (by decide) (pc' := 336) rfl ?_
              refine k_goto X941 at_336 (pc' := 341) (by decide) (by decide) ?_
              refine k_istore X941 at_341 (Ls' := #[.val (.int p0), .val (.int p1), .val (.int p2), .val (.int p3), .val (.int p4), .val (.int p5), .val (.int (1 : Int32)), .val (.int l1), .val (.int l2), .val (.int pbv), .val (.ref r_815), .val (.ref r_821), .val (.int d1), .val (.int d2), .val (.int k), .val (.int (0 : Int32)), .val (.int (d2 + k)), .val (.int (d2 + (0 : Int32))), .val (.ref b828), .val (.int (2 : Int32)), .val (.int (0 : Int32)), .val (.int (2 : Int32)), .val (.int (1 : Int32)), .val (.int (1 : Int32))]) rfl (pc' := 343) rfl ?_
              refine k_aload X941 at_343 rfl rfl (pc' := 345) rfl ?_
              refine k_iload X941 at_345 rfl (pc' := 347) rfl ?_
              have c944 := (c932.keep K941)
              have c945 := (c934.keep K941 nin0)
              have c946 := ((fj875_10.keep K931 nin0).keep K941 nin0)
              have c947 := ((fj875_11.keep K931 nin0).keep K941 nin0)
              have c948 := ((fj875_12.keep K931 nin0).keep K941 nin0)
              have c949 := (c933.keep K941 nin0)
              have c950 := (c935.keep K941)
              have c951 := ((fj875_15.keep K931 nin0).keep K941 nin0)
              have c952 := ((fj875_16.keep K931 nin0).keep K941 nin0)
              have c953 := (c936.keep K941 nin0)
              have c954 := ((fj875_18.keep K931 nin0).keep K941 nin0)
              have c955 := ((fj875_19.keep K931 nin0).keep K941 nin0)
              have c956 := ((fj875_20.keep K931 nin0).keep K941 nin0)
              have c957 := ((fj875_21.keep K931 nin0).keep K941 nin0)
              refine k_callVNF X941 (y := (⟨"com/example/colophon/colophon/OpenIds", "endElement", "(I)V"⟩ : MethodName)) at_347 (w_133 hw) (w_134 hw) (w_136 hw) (w_135 hw) (w_38 hw) (w_137 hw) (by decide) (notFace_of_selects (args := #[]) (mvT X941.hZ (w_136 hw))) c944 (argsL := [(.int (d2 + (0 : Int32)))]) (rest := []) (own_enYes2 l Z a0 hw G n0 h941 X941.old b828 sb_830 dp_832 sp_833 kd_835 ks_836 bv_831 kb_834 (Int32.ofNat ((cs_818.length) + cs_824.length)) (own_put (own_put (List.replicate 16 (0 : Int32)) 0 cs_818) (cs_818.length) cs_824) (0 : Int32) (d2 + (0 : Int32)) r_821 d1 d2 (0 : Int32) (Int32.ofNat (0 + cs_818.length)) (cs_818.length + cs_824.length) (cs_818.length) (Int32.add_zero _).symm en1 rfl (by omega) (by omega) hfr5 ge829 ge845 c944 c945 c946 c947 c948 c949 c950 c951 c952 c953 c954 c955 c956 c957) rfl pd_9 rfl rfl (by decide) (W := 0) (Nat.le_of_eq rfl) (by decide) (by decide) (by decide) (allS ⟨(X941.sfE c944), ge829⟩ (allS ⟨(X941.sfE c950), ge845⟩ all0)) (pc' := 350) rfl ?_
              rintro T959 h959 L959 X959 K959 ⟨mc_958, q959_0, q959_1, q959_2, q959_3, q959_4, q959_5, q959_6, q959_7, q959_8, q959_9, q959_10⟩
              have sz_h959 := K959.1
              have K0_h959 : Keep h0 h959 [] := K0_h941.trans K959 (allS (Or.inr od838) (allS (Or.inr od854) all0))
              have lt959_0 := own_n q959_0.lt
              have lt959_1 := own_n q959_1.lt
              have lt959_2 := own_n q959_2.lt
              have lt959_3 := own_n q959_3.lt
              have lt959_4 := own_n q959_4.lt
              have lt959_5 := own_n q959_5.lt
              have lt959_6 := own_n q959_6.lt
              have lt959_7 := own_n q959_7.lt
              have lt959_8 := own_n q959_8.lt
              have lt959_9 := own_n q959_9.lt
              have lt959_10 := own_n q959_10.lt
              refine k_aload X959 at_350 rfl rfl (pc' := 352) rfl ?_
              refine k_iload X959 at_352 rfl (pc' := 354) rfl ?_
              refine k_aload X959 at_354 rfl rfl (pc' := 356) rfl ?_
              refine k_aload X959 at_356 rfl rfl (pc' := 358) rfl ?_
              refine k_iload X959 at_358 rfl (pc' := 360) rfl ?_
              refine k_iload X959 at_360 rfl (pc' := 362) rfl ?_
              have ne960 : (bv_831 : Nat) ≠ sb_830 := own_ne (by omega)
              have ne961 : (bv_831 : Nat) ≠ b828 := own_ne (by omega)
              have c962 := (c955.keep K959 (ninS ne961 (ninS ne960 nin0)))
              have ne963 : (sp_833 : Nat) ≠ sb_830 := own_ne (by omega)
              have ne964 : (sp_833 : Nat) ≠ b828 := own_ne (by omega)
              have c965 := (c957.keep K959 (ninS ne964 (ninS ne963 nin0)))
              have c966 := (((fj875_0.keep K931).keep K941).keep K959)
              have ne967 : (r_815 : Nat) ≠ sb_830 := own_ne (by omega)
              have c968 := (((fj875_1.keep K931 nin0).keep K941 nin0).keep K959 (ninS ne840 (ninS ne967 nin0)))
              have c969 := (((fj875_2.keep K931 nin0).keep K941 nin0).keep K959 (ninS ne840 (ninS ne967 nin0)))
              have ne970 : (t_816 : Nat) ≠ sb_830 := own_ne (by omega)
              have c971 := (((fj875_3.keep K931 nin0).keep K941 nin0).keep K959 (ninS ne843 (ninS ne970 nin0)))
              refine k_callSVH X959 (y := (⟨"com/example/colophon/colophon/OpenIdsEndElementPinLaw", "state", "(Lcom/example/colophon/colophon/OpenIds;ILjava/lang/String;Ljava/lang/String;II)Z"⟩ : MethodName)) at_362 (w_138 hw) (w_139 hw) (w_2 hw) (w_140 hw) (by decide) (argsL := [(.ref b828), (.int (1 : Int32)), (.ref r_815), (.ref r_821), (.int l1), (.int l2)]) (rest := []) (own_stt1s l Z a0 hw G n0 h959 X959.old b828 r_815 l1 l2 r_821 sb_830 dp_832 sp_833 ks_836 bv_831 kb_834 (own_put (own_put (List.replicate 16 (0 : Int32)) 0 cs_818) (cs_818.length) cs_824) (cs_818.length) (Int32.ofNat (0 + cs_818.length)) en1 (by omega) lB2 hfr5 (Int32.ofNat (0 + cs_818.length)) cs_818 t_816 kt_817 (m1.1) rfl (en1.trans m1.2.2.symm) (by rw [own_put_low (Nat.le_refl _) (by rw [lB1]; omega)]; exact own_put_all) hoi1 hot1 ge829 q959_0 q959_1 q959_2 q959_3 q959_4 q959_5 q959_6 q959_7 q959_8 q959_9 c962 c965 c966 c968 c969 c971) rfl pd_27 rfl rfl (by decide) (W := 0) (Nat.le_of_eq rfl) (by decide) (by decide) (by decide) (allS ⟨⟨own_n (by omega), (X959.sfE q959_0)⟩, ge829⟩ all0) (pc' := 365) rfl ?_
              rintro _ v975 T975 h975 L975 X975 K975 C975 ⟨r_972, t9_973, kt9_974, rfl, q975_0, q975_1, q975_2, q975_3, q975_4, q975_5, q975_6, q975_7, q975_8, q975_9⟩
              have sz_h975 := K975.1
              have K0_h975 : Keep h0 h975 [] := K0_h959.trans K975 (allS (Or.inr od838) all0)
              have lt975_0 := own_n q975_0.lt
              have lt975_1 := own_n q975_1.lt
              have lt975_2 := own_n q975_2.lt
              have lt975_3 := own_n q975_3.lt
              have lt975_4 := own_n q975_4.lt
              have lt975_5 := own_n q975_5.lt
              have lt975_6 := own_n q975_6.lt
              have lt975_7 := own_n q975_7.lt
              have lt975_8 := own_n q975_8.lt
              have lt975_9 := own_n q975_9.lt
              exact k_retHN X975 (w := (1 : Int32)) at_365 (t := .boolean) rfl (by simp) rfl K0_h975 (fun v' C' => ⟨_, rfl, rfl, trivial⟩) (by decide) (by decide)
            · refine k_iload X941 at_310 rfl (pc' := 312) rfl ?_
              refine k_ifNo X941 at_312 (by decide) (pc' := 315) rfl ?_
              refine k_iload X941 at_315 rfl (pc' := 317) rfl ?_
              refine k_ifYes X941 at_317 ((if0 _ _).trans (feq hc943).2) (pc' := 324) (by decide) (by decide) ?_
              refine k_iconst X941 at_324 (w := (0 : Int32)) rfl (pc' := 325) rfl ?_
              refine k_istore X941 at_325 (Ls' := #[.val (.int p0), .val (.int p1), .val (.int p2), .val (.int p3), .val (.int p4), .val (.int p5), .val (.int (1 : Int32)), .val (.int l1), .val (.int l2), .val (.int pbv), .val (.ref r_815), .val (.ref r_821), .val (.int d1), .val (.int d2), .val (.int k), .val (.int j), .val (.int (d2 + k)), .val (.int (d2 + j)), .val (.ref b828), .val (.int (2 : Int32)), .val (.int (0 : Int32)), .val (.int (2 : Int32)), .val (.int (0 : Int32)), .unset]) rfl (pc' := 327) rfl ?_
              refine k_iload X941 at_327 rfl (pc' := 329) rfl ?_
              refine k_ifYes X941 at_329 (by decide) (pc' := 339) (by decide) (by decide) ?_
              refine k_iload X941 at_339 rfl (pc' := 341) rfl ?_
              refine k_istore X941 at_341 (Ls' := #[.val (.int p0), .val (.int p1), .val (.int p2), .val (.int p3), .val (.int p4), .val (.int p5), .val (.int (1 : Int32)), .val (.int l1), .val (.int l2), .val (.int pbv), .val (.ref r_815), .val (.ref r_821), .val (.int d1), .val (.int d2), .val (.int k), .val (.int j), .val (.int (d2 + k)), .val (.int (d2 + j)), .val (.ref b828), .val (.int (2 : Int32)), .val (.int (0 : Int32)), .val (.int (2 : Int32)), .val (.int (0 : Int32)), .val (.int (2 : Int32))]) rfl (pc' := 343) rfl ?_
              refine k_aload X941 at_343 rfl rfl (pc' := 345) rfl ?_
              refine k_iload X941 at_345 rfl (pc' := 347) rfl ?_
              have c977 := ((fj875_12.keep K931 nin0).keep K941 nin0)
              have c978 := ((fj875_10.keep K931 nin0).keep K941 nin0)
              have c979 := ((fj875_20.keep K931 nin0).keep K941 nin0)
              have c980 := (c932.keep K941)
              refine k_callVNF X941 (y := (⟨"com/example/colophon/colophon/OpenIds", "endElement", "(I)V"⟩ : MethodName)) at_347 (w_133 hw) (w_134 hw) (w_136 hw) (w_135 hw) (w_38 hw) (w_137 hw) (by decide) (notFace_of_selects (args := #[]) (mvT X941.hZ (w_136 hw))) c980 (argsL := [(.int (d2 + j))]) (rest := []) (own_enNo2 l Z a0 hw G n0 h941 X941.old b828 dp_832 kd_835 (d2 + j) d1 d2 (own_addne hc943) c977 c978 c979) rfl pd_9 rfl rfl (by decide) (W := 0) (Nat.le_of_eq rfl) (by decide) (by decide) (by decide) all0 (pc' := 350) rfl ?_
              rintro T981 h981 L981 X981 K981 -
              have sz_h981 := K981.1
              have K0_h981 : Keep h0 h981 [] := K0_h941.trans K981 all0
              refine k_aload X981 at_350 rfl rfl (pc' := 352) rfl ?_
              refine k_iload X981 at_352 rfl (pc' := 354) rfl ?_
              refine k_aload X981 at_354 rfl rfl (pc' := 356) rfl ?_
              refine k_aload X981 at_356 rfl rfl (pc' := 358) rfl ?_
              refine k_iload X981 at_358 rfl (pc' := 360) rfl ?_
              refine k_iload X981 at_360 rfl (pc' := 362) rfl ?_
              have c982 := (c980.keep K981)
              have c983 := ((c933.keep K941 nin0).keep K981 nin0)
              have c984 := ((c934.keep K941 nin0).keep K981 nin0)
              have c985 := ((c935.keep K941).keep K981)
              have c986 := ((c936.keep K941 nin0).keep K981 nin0)
              have c987 := ((c937.keep K941).keep K981)
              have c988 := ((c938.keep K941 nin0).keep K981 nin0)
              have c989 := ((c939.keep K941 nin0).keep K981 nin0)
              have c990 := ((c940.keep K941 nin0).keep K981 nin0)
              refine k_callSVF X981 (y := (⟨"com/example/colophon/colophon/OpenIdsEndElementPinLaw", "state", "(Lcom/example/colophon/colophon/OpenIds;ILjava/lang/String;Ljava/lang/String;II)Z"⟩ : MethodName)) at_362 (w_138 hw) (w_139 hw) (w_2 hw) (w_140 hw) (by decide) (argsL := [(.ref b828), (.int (2 : Int32)), (.ref r_815), (.ref r_821), (.int l1), (.int l2)]) (rest := []) (own_stt2 l Z a0 hw G n0 h981 X981.old b828 r_815 l1 l2 r_821 sb_830 r_821 (Int32.ofNat ((cs_818.length) + cs_824.length)) cs_824 t_822 kt_823 t_822 kt_823 (m2.1) (by omega) (by rw [m1.2.2, m2.2.2]; exact Int32.ofNat_add _ _) c982 c983 c984 c985 c986 c987 c988 c989 c990 c987 c988 c989 c990) rfl pd_27 rfl rfl (by decide) (W := 0) (Nat.le_of_eq rfl) (by decide) (by decide) (by decide) all0 (pc' := 365) rfl ?_
              rintro _ T991 h991 L991 X991 K991 ⟨rfl, -⟩
              have sz_h991 := K991.1
              have K0_h991 : Keep h0 h991 [] := K0_h981.trans K991 all0
              exact k_retHN X991 (w := (1 : Int32)) at_365 (t := .boolean) rfl (by simp) rfl K0_h991 (fun v' C' => ⟨_, rfl, rfl, trivial⟩) (by decide) (by decide)
        refine k_iload X874 at_186 rfl (pc' := 188) rfl ?_
        by_cases hc993 : pbv = (0 : Int32)
        · refine k_ifYes X874 at_188 ((if0 _ _).trans (teq hc993).1) (pc' := 220) (by decide) (by decide) ?_
          refine k_iload X874 at_220 rfl (pc' := 222) rfl ?_
          refine k_ifNo X874 at_222 (by decide) (pc' := 225) rfl ?_
          refine k_iconst X874 at_225 (w := (2 : Int32)) rfl (pc' := 226) rfl ?_
          refine k_goto X874 at_226 (pc' := 230) (by decide) (by decide) ?_
          refine k_istore X874 at_230 (Ls' := #[.val (.int p0), .val (.int p1), .val (.int p2), .val (.int p3), .val (.int p4), .val (.int p5), .val (.int (1 : Int32)), .val (.int l1), .val (.int l2), .val (.int pbv), .val (.ref r_815), .val (.ref r_821), .val (.int d1), .val (.int d2), .val (.int k), .val (.int j), .val (.int e1), .val (.int e2), .val (.ref b828), .val (.int (2 : Int32)), .unset, .unset, .unset, .unset]) rfl (pc' := 232) rfl ?_
          have c994 := ((c839.keep K850).keep K874)
          have ne995 : (r_815 : Nat) ≠ sp_833 := own_ne (by omega)
          have ne996 : (r_815 : Nat) ≠ dp_832 := own_ne (by omega)
          have ne997 : (r_815 : Nat) ≠ bv_831 := own_ne (by omega)
          have ne998 : (r_815 : Nat) ≠ sb_830 := own_ne (by omega)
          have c999 := ((c841.keep K850 (ninS ne840 (ninS ne998 (ninS ne997 (ninS ne996 (ninS ne995 nin0)))))).keep K874 (ninS ne840 (ninS ne998 (ninS ne997 (ninS ne996 (ninS ne995 nin0))))))
          have c1000 := ((c842.keep K850 (ninS ne840 (ninS ne998 (ninS ne997 (ninS ne996 (ninS ne995 nin0)))))).keep K874 (ninS ne840 (ninS ne998 (ninS ne997 (ninS ne996 (ninS ne995 nin0))))))
          have ne1001 : (t_816 : Nat) ≠ sp_833 := own_ne (by omega)
          have ne1002 : (t_816 : Nat) ≠ dp_832 := own_ne (by omega)
          have ne1003 : (t_816 : Nat) ≠ bv_831 := own_ne (by omega)
          have ne1004 : (t_816 : Nat) ≠ sb_830 := own_ne (by omega)
          have c1005 := ((c844.keep K850 (ninS ne843 (ninS ne1004 (ninS ne1003 (ninS ne1002 (ninS ne1001 nin0)))))).keep K874 (ninS ne843 (ninS ne1004 (ninS ne1003 (ninS ne1002 (ninS ne1001 nin0))))))
          have c1006 := (c855.keep K874)
          have c1007 := (c861.keep K874 (ninS ne856 (ninS ne860 (ninS ne859 (ninS ne858 (ninS ne857 nin0))))))
          have c1008 := (c862.keep K874 (ninS ne856 (ninS ne860 (ninS ne859 (ninS ne858 (ninS ne857 nin0))))))
          have c1009 := (c868.keep K874 (ninS ne863 (ninS ne867 (ninS ne866 (ninS ne865 (ninS ne864 nin0))))))
          have c1010 := (X850.sf K874 (allS ⟨c873, ge829⟩ (allS ⟨c872, ge845⟩ (allS ⟨c871, ge846⟩ (allS ⟨c870, ge847⟩ (allS ⟨c869, ge848⟩ all0))))) c871)
          exact j875 _ _ _ _   (X874.up (by decide) (by decide)) K0_h874 c994 c999 c1000 c1005 c1006 c1007 c1008 c1009 q874_0 q874_1 q874_2 q874_3 q874_4 q874_5 q874_6 q874_7 q874_8 q874_9 q874_10 q874_11 q874_12 q874_13 c1010
        · refine k_ifNo X874 at_188 ((if0 _ _).trans (feq hc993).1) (pc' := 191) rfl ?_
          refine k_aload X874 at_191 rfl rfl (pc' := 193) rfl ?_
          refine k_callVVF X874 (y := (⟨"com/example/colophon/colophon/OpenIds", "innermost", "()Ljava/lang/String;"⟩ : MethodName)) at_193 (w_141 hw) (w_142 hw) (w_144 hw) (w_143 hw) (w_38 hw) (w_145 hw) (by decide) (notFace_of_selects (args := #[]) (mvT X874.hZ (w_144 hw))) q874_0 (argsL := []) (rest := []) (own_inR l Z a0 hw G n0 h874 X874.old b828 r_821 q874_5) rfl pd_25 rfl rfl (by decide) (W := 0) (Nat.le_of_eq rfl) (by decide) (by decide) (by decide) all0 (pc' := 196) rfl ?_
          rintro _ T1011 h1011 L1011 X1011 K1011 ⟨rfl, -⟩
          have sz_h1011 := K1011.1
          have K0_h1011 : Keep h0 h1011 [] := K0_h874.trans K1011 all0
          refine k_astore X1011 at_196 rfl (Ls' := #[.val (.int p0), .val (.int p1), .val (.int p2), .val (.int p3), .val (.int p4), .val (.int p5), .val (.int (1 : Int32)), .val (.int l1), .val (.int l2), .val (.int pbv), .val (.ref r_815), .val (.ref r_821), .val (.int d1), .val (.int d2), .val (.int k), .val (.int j), .val (.int e1), .val (.int e2), .val (.ref b828), .val (.ref r_821), .unset, .unset, .unset, .unset]) rfl (pc' := 198) rfl ?_
          refine k_aload X1011 at_198 rfl rfl (pc' := 200) rfl ?_
          refine k_iload X1011 at_200 rfl (pc' := 202) rfl ?_
          refine k_ifNo X1011 at_202 (by decide) (pc' := 205) rfl ?_
          refine k_aload X1011 at_205 rfl rfl (pc' := 207) rfl ?_
          refine k_goto X1011 at_207 (pc' := 212) (by decide) (by decide) ?_
          have c1013 := ((c855.keep K874).keep K1011)
          have c1014 := ((c861.keep K874 (ninS ne856 (ninS ne860 (ninS ne859 (ninS ne858 (ninS ne857 nin0)))))).keep K1011 nin0)
          have c1015 := ((c862.keep K874 (ninS ne856 (ninS ne860 (ninS ne859 (ninS ne858 (ninS ne857 nin0)))))).keep K1011 nin0)
          have c1016 := ((c868.keep K874 (ninS ne863 (ninS ne867 (ninS ne866 (ninS ne865 (ninS ne864 nin0)))))).keep K1011 nin0)
          refine k_callSVF X1011 (y := (⟨"com/example/colophon/colophon/OpenIdsEndElementPinLaw", "same", "(Ljava/lang/String;Ljava/lang/String;)Z"⟩ : MethodName)) at_212 (w_146 hw) (w_147 hw) (w_2 hw) (w_148 hw) (by decide) (argsL := [(.ref r_821), (.ref r_821)]) (rest := []) (own_same l Z a0 hw G n0 h1011 X1011.old r_821 r_821 cs_824 t_822 kt_823 t_822 kt_823 (m2.1) (by omega) c1013 c1014 c1015 c1016 c1013 c1014 c1015 c1016) rfl pd_26 rfl rfl (by decide) (W := 0) (Nat.le_of_eq rfl) (by decide) (by decide) (by decide) all0 (pc' := 215) rfl ?_
          rintro _ T1017 h1017 L1017 X1017 K1017 ⟨rfl, -⟩
          have sz_h1017 := K1017.1
          have K0_h1017 : Keep h0 h1017 [] := K0_h1011.trans K1017 all0
          refine k_ifYes X1017 at_215 (by decide) (pc' := 220) (by decide) (by decide) ?_
          refine k_iload X1017 at_220 rfl (pc' := 222) rfl ?_
          refine k_ifNo X1017 at_222 (by decide) (pc' := 225) rfl ?_
          refine k_iconst X1017 at_225 (w := (2 : Int32)) rfl (pc' := 226) rfl ?_
          refine k_goto X1017 at_226 (pc' := 230) (by decide) (by decide) ?_
          refine k_istore X1017 at_230 (Ls' := #[.val (.int p0), .val (.int p1), .val (.int p2), .val (.int p3), .val (.int p4), .val (.int p5), .val (.int (1 : Int32)), .val (.int l1), .val (.int l2), .val (.int pbv), .val (.ref r_815), .val (.ref r_821), .val (.int d1), .val (.int d2), .val (.int k), .val (.int j), .val (.int e1), .val (.int e2), .val (.ref b828), .val (.int (2 : Int32)), .unset, .unset, .unset, .unset]) rfl (pc' := 232) rfl ?_
          have c1019 := ((((c839.keep K850).keep K874).keep K1011).keep K1017)
          have ne1020 : (r_815 : Nat) ≠ sp_833 := own_ne (by omega)
          have ne1021 : (r_815 : Nat) ≠ dp_832 := own_ne (by omega)
          have ne1022 : (r_815 : Nat) ≠ bv_831 := own_ne (by omega)
          have ne1023 : (r_815 : Nat) ≠ sb_830 := own_ne (by omega)
          have c1024 := ((((c841.keep K850 (ninS ne840 (ninS ne1023 (ninS ne1022 (ninS ne1021 (ninS ne1020 nin0)))))).keep K874 (ninS ne840 (ninS ne1023 (ninS ne1022 (ninS ne1021 (ninS ne1020 nin0)))))).keep K1011 nin0).keep K1017 nin0)
          have c1025 := ((((c842.keep K850 (ninS ne840 (ninS ne1023 (ninS ne1022 (ninS ne1021 (ninS ne1020 nin0)))))).keep K874 (ninS ne840 (ninS ne1023 (ninS ne1022 (ninS ne1021 (ninS ne1020 nin0)))))).keep K1011 nin0).keep K1017 nin0)
          have ne1026 : (t_816 : Nat) ≠ sp_833 := own_ne (by omega)
          have ne1027 : (t_816 : Nat) ≠ dp_832 := own_ne (by omega)
          have ne1028 : (t_816 : Nat) ≠ bv_831 := own_ne (by omega)
          have ne1029 : (t_816 : Nat) ≠ sb_830 := own_ne (by omega)
          have c1030 := ((((c844.keep K850 (ninS ne843 (ninS ne1029 (ninS ne1028 (ninS ne1027 (ninS ne1026 nin0)))))).keep K874 (ninS ne843 (ninS ne1029 (ninS ne1028 (ninS ne1027 (ninS ne1026 nin0)))))).keep K1011 nin0).keep K1017 nin0)
          have c1031 := (c1013.keep K1017)
          have c1032 := (c1014.keep K1017 nin0)
          have c1033 := (c1015.keep K1017 nin0)
          have c1034 := (c1016.keep K1017 nin0)
          have c1035 := ((q874_0.keep K1011).keep K1017)
          have c1036 := ((q874_1.keep K1011 nin0).keep K1017 nin0)
          have c1037 := ((q874_2.keep K1011 nin0).keep K1017 nin0)
          have c1038 := ((q874_3.keep K1011 nin0).keep K1017 nin0)
          have c1039 := ((q874_4.keep K1011 nin0).keep K1017 nin0)
          have c1040 := ((q874_5.keep K1011 nin0).keep K1017 nin0)
          have c1041 := ((q874_6.keep K1011).keep K1017)
          have c1042 := ((q874_7.keep K1011 nin0).keep K1017 nin0)
          have c1043 := ((q874_8.keep K1011 nin0).keep K1017 nin0)
          have c1044 := ((q874_9.keep K1011 nin0).keep K1017 nin0)
          have c1045 := ((q874_10.keep K1011 nin0).keep K1017 nin0)
          have c1046 := ((q874_11.keep K1011 nin0).keep K1017 nin0)
          have c1047 := ((q874_12.keep K1011 nin0).keep K1017 nin0)
          have c1048 := ((q874_13.keep K1011 nin0).keep K1017 nin0)
          have c1049 := (X1011.sf K1017 all0 (X874.sf K1011 all0 (X850.sf K874 (allS ⟨c873, ge829⟩ (allS ⟨c872, ge845⟩ (allS ⟨c871, ge846⟩ (allS ⟨c870, ge847⟩ (allS ⟨c869, ge848⟩ all0))))) c871)))
          exact j875 _ _ _ _   (X1017.up (by decide) (by decide)) K0_h1017 c1019 c1024 c1025 c1030 c1031 c1032 c1033 c1034 c1035 c1036 c1037 c1038 c1039 c1040 c1041 c1042 c1043 c1044 c1045 c1046 c1047 c1048 c1049
      by_cases hc1050 : (p2 &&& (1 : Int32)) = (0 : Int32)
      · refine k_ifNo X825 at_98 ((if0 _ _).trans (teq hc1050).2) (pc' := 101) rfl ?_
        refine k_iconst X825 at_101 (w := (0 : Int32)) rfl (pc' := 102) rfl ?_
        refine k_goto X825 at_102 (pc' := 113) (by decide) (by decide) ?_
        refine k_istore X825 at_113 (Ls' := #[.val (.int p0), .val (.int p1), .val (.int p2), .val (.int p3), .val (.int p4), .val (.int p5), .val (.int (1 : Int32)), .val (.int l1), .val (.int l2), .val (.int pbv), .val (.ref r_815), .val (.ref r_821), .val (.int d1), .val (.int d2), .val (.int (0 : Int32)), .unset, .unset, .unset, .unset, .unset, .unset, .unset, .unset, .unset]) rfl (pc' := 115) rfl ?_
        refine k_iloadN X825 at_115 rfl (pc' := 116) rfl ?_
        refine k_iconst X825 at_116 (w := (1 : Int32)) rfl (pc' := 117) rfl ?_
        refine k_iand X825 at_117 (w := (p3 &&& (1 : Int32))) rfl (pc' := 118) rfl ?_
        by_cases hc1051 : (p3 &&& (1 : Int32)) = (0 : Int32)
        · refine k_ifNo X825 at_118 ((if0 _ _).trans (teq hc1051).2) (pc' := 121) rfl ?_
          refine k_iconst X825 at_121 (w := (0 : Int32)) rfl (pc' := 122) rfl ?_
          refine k_goto X825 at_122 (pc' := 133) (by decide) (by decide) ?_
          refine k_istore X825 at_133 (Ls' := #[.val (.int p0), .val (.int p1), .val (.int p2), .val (.int p3), .val (.int p4), .val (.int p5), .val (.int (1 : Int32)), .val (.int l1), .val (.int l2), .val (.int pbv), .val (.ref r_815), .val (.ref r_821), .val (.int d1), .val (.int d2), .val (.int (0 : Int32)), .val (.int (0 : Int32)), .unset, .unset, .unset, .unset, .unset, .unset, .unset, .unset]) rfl (pc' := 135) rfl ?_
          refine k_iload X825 at_135 rfl (pc' := 137) rfl ?_
          refine k_iload X825 at_137 rfl (pc' := 139) rfl ?_
          refine k_iadd X825 at_139 (w := d2) (Int32.add_zero d2) (pc' := 140) rfl ?_
          refine k_istore X825 at_140 (Ls' := #[.val (.int p0), .val (.int p1), .val (.int p2), .val (.int p3), .val (.int p4), .val (.int p5), .val (.int (1 : Int32)), .val (.int l1), .val (.int l2), .val (.int pbv), .val (.ref r_815), .val (.ref r_821), .val (.int d1), .val (.int d2), .val (.int (0 : Int32)), .val (.int (0 : Int32)), .val (.int d2), .unset, .unset, .unset, .unset, .unset, .unset, .unset]) rfl (pc' := 142) rfl ?_
          refine k_iload X825 at_142 rfl (pc' := 144) rfl ?_
          refine k_ifNo X825 at_144 (by decide) (pc' := 147) rfl ?_
          refine k_iload X825 at_147 rfl (pc' := 149) rfl ?_
          refine k_goto X825 at_149 (pc' := 154) (by decide) (by decide) ?_
          refine k_iload X825 at_154 rfl (pc' := 156) rfl ?_
          refine k_iadd X825 at_156 (w := (d1 + (0 : Int32))) rfl (pc' := 157) rfl ?_
          refine k_istore X825 at_157 (Ls' := #[.val (.int p0), .val (.int p1), .val (.int p2), .val (.int p3), .val (.int p4), .val (.int p5), .val (.int (1 : Int32)), .val (.int l1), .val (.int l2), .val (.int pbv), .val (.ref r_815), .val (.ref r_821), .val (.int d1), .val (.int d2), .val (.int (0 : Int32)), .val (.int (0 : Int32)), .val (.int d2), .val (.int (d1 + (0 : Int32))), .unset, .unset, .unset, .unset, .unset, .unset]) rfl (pc' := 159) rfl ?_
          have c1052 := (q819_0.keep K825)
          have c1053 := (q819_1.keep K825 nin0)
          have c1054 := (q819_2.keep K825 nin0)
          have c1055 := (q819_3.keep K825 nin0)
          exact j827 _ _ _ _ (0 : Int32) (0 : Int32) d2 (d1 + (0 : Int32)) own_up0 own_up0 (Or.inl ⟨rfl, rfl, rfl⟩) (X825.up (by decide) (by decide)) K0_h825 c1052 c1053 c1054 c1055 q825_0 q825_1 q825_2 q825_3
        · refine k_ifYes X825 at_118 ((if0 _ _).trans (feq hc1051).2) (pc' := 125) (by decide) (by decide) ?_
          refine k_iconst X825 at_125 (w := (1 : Int32)) rfl (pc' := 126) rfl ?_
          refine k_iloadN X825 at_126 rfl (pc' := 127) rfl ?_
          refine k_iconst X825 at_127 (w := (1 : Int32)) rfl (pc' := 128) rfl ?_
          refine k_iushr X825 at_128 (w := ((p3.toUInt32 >>> ((1 : Int32) &&& 31).toUInt32).toInt32)) rfl (pc' := 129) rfl ?_
          refine k_ldcI X825 at_129 (w_35 hw) (pc' := 131) rfl ?_
          refine k_iand X825 at_131 (w := (((p3.toUInt32 >>> ((1 : Int32) &&& 31).toUInt32).toInt32) &&& (268435455 : Int32))) rfl (pc' := 132) rfl ?_
          refine k_iadd X825 at_132 (w := ja) hja (pc' := 133) rfl ?_
          refine k_istore X825 at_133 (Ls' := #[.val (.int p0), .val (.int p1), .val (.int p2), .val (.int p3), .val (.int p4), .val (.int p5), .val (.int (1 : Int32)), .val (.int l1), .val (.int l2), .val (.int pbv), .val (.ref r_815), .val (.ref r_821), .val (.int d1), .val (.int d2), .val (.int (0 : Int32)), .val (.int ja), .unset, .unset, .unset, .unset, .unset, .unset, .unset, .unset]) rfl (pc' := 135) rfl ?_
          refine k_iload X825 at_135 rfl (pc' := 137) rfl ?_
          refine k_iload X825 at_137 rfl (pc' := 139) rfl ?_
          refine k_iadd X825 at_139 (w := d2) (Int32.add_zero d2) (pc' := 140) rfl ?_
          refine k_istore X825 at_140 (Ls' := #[.val (.int p0), .val (.int p1), .val (.int p2), .val (.int p3), .val (.int p4), .val (.int p5), .val (.int (1 : Int32)), .val (.int l1), .val (.int l2), .val (.int pbv), .val (.ref r_815), .val (.ref r_821), .val (.int d1), .val (.int d2), .val (.int (0 : Int32)), .val (.int ja), .val (.int d2), .unset, .unset, .unset, .unset, .unset, .unset, .unset]) rfl (pc' := 142) rfl ?_
          refine k_iload X825 at_142 rfl (pc' := 144) rfl ?_
          refine k_ifNo X825 at_144 (by decide) (pc' := 147) rfl ?_
          refine k_iload X825 at_147 rfl (pc' := 149) rfl ?_
          refine k_goto X825 at_149 (pc' := 154) (by decide) (by decide) ?_
          refine k_iload X825 at_154 rfl (pc' := 156) rfl ?_
          refine k_iadd X825 at_156 (w := (d1 + ja)) rfl (pc' := 157) rfl ?_
          refine k_istore X825 at_157 (Ls' := #[.val (.int p0), .val (.int p1), .val (.int p2), .val (.int p3), .val (.int p4), .val (.int p5), .val (.int (1 : Int32)), .val (.int l1), .val (.int l2), .val (.int pbv), .val (.ref r_815), .val (.ref r_821), .val (.int d1), .val (.int d2), .val (.int (0 : Int32)), .val (.int ja), .val (.int d2), .val (.int (d1 + ja)), .unset, .unset, .unset, .unset, .unset, .unset]) rfl (pc' := 159) rfl ?_
          have c1056 := (q819_0.keep K825)
          have c1057 := (q819_1.keep K825 nin0)
          have c1058 := (q819_2.keep K825 nin0)
          have c1059 := (q819_3.keep K825 nin0)
          exact j827 _ _ _ _ (0 : Int32) ja d2 (d1 + ja) own_up0 uja.1 (Or.inl ⟨rfl, rfl, rfl⟩) (X825.up (by decide) (by decide)) K0_h825 c1056 c1057 c1058 c1059 q825_0 q825_1 q825_2 q825_3
      · refine k_ifYes X825 at_98 ((if0 _ _).trans (feq hc1050).2) (pc' := 105) (by decide) (by decide) ?_
        refine k_iconst X825 at_105 (w := (1 : Int32)) rfl (pc' := 106) rfl ?_
        refine k_iloadN X825 at_106 rfl (pc' := 107) rfl ?_
        refine k_iconst X825 at_107 (w := (1 : Int32)) rfl (pc' := 108) rfl ?_
        refine k_iushr X825 at_108 (w := ((p2.toUInt32 >>> ((1 : Int32) &&& 31).toUInt32).toInt32)) rfl (pc' := 109) rfl ?_
        refine k_ldcI X825 at_109 (w_35 hw) (pc' := 111) rfl ?_
        refine k_iand X825 at_111 (w := (((p2.toUInt32 >>> ((1 : Int32) &&& 31).toUInt32).toInt32) &&& (268435455 : Int32))) rfl (pc' := 112) rfl ?_
        refine k_iadd X825 at_112 (w := ka) hka (pc' := 113) rfl ?_
        refine k_istore X825 at_113 (Ls' := #[.val (.int p0), .val (.int p1), .val (.int p2), .val (.int p3), .val (.int p4), .val (.int p5), .val (.int (1 : Int32)), .val (.int l1), .val (.int l2), .val (.int pbv), .val (.ref r_815), .val (.ref r_821), .val (.int d1), .val (.int d2), .val (.int ka), .unset, .unset, .unset, .unset, .unset, .unset, .unset, .unset, .unset]) rfl (pc' := 115) rfl ?_
        refine k_iloadN X825 at_115 rfl (pc' := 116) rfl ?_
        refine k_iconst X825 at_116 (w := (1 : Int32)) rfl (pc' := 117) rfl ?_
        refine k_iand X825 at_117 (w := (p3 &&& (1 : Int32))) rfl (pc' := 118) rfl ?_
        by_cases hc1060 : (p3 &&& (1 : Int32)) = (0 : Int32)
        · refine k_ifNo X825 at_118 ((if0 _ _).trans (teq hc1060).2) (pc' := 121) rfl ?_
          refine k_iconst X825 at_121 (w := (0 : Int32)) rfl (pc' := 122) rfl ?_
          refine k_goto X825 at_122 (pc' := 133) (by decide) (by decide) ?_
          refine k_istore X825 at_133 (Ls' := #[.val (.int p0), .val (.int p1), .val (.int p2), .val (.int p3), .val (.int p4), .val (.int p5), .val (.int (1 : Int32)), .val (.int l1), .val (.int l2), .val (.int pbv), .val (.ref r_815), .val (.ref r_821), .val (.int d1), .val (.int d2), .val (.int ka), .val (.int (0 : Int32)), .unset, .unset, .unset, .unset, .unset, .unset, .unset, .unset]) rfl (pc' := 135) rfl ?_
          refine k_iload X825 at_135 rfl (pc' := 137) rfl ?_
          refine k_iload X825 at_137 rfl (pc' := 139) rfl ?_
          refine k_iadd X825 at_139 (w := (d2 + ka)) rfl (pc' := 140) rfl ?_
          refine k_istore X825 at_140 (Ls' := #[.val (.int p0), .val (.int p1), .val (.int p2), .val (.int p3), .val (.int p4), .val (.int p5), .val (.int (1 : Int32)), .val (.int l1), .val (.int l2), .val (.int pbv), .val (.ref r_815), .val (.ref r_821), .val (.int d1), .val (.int d2), .val (.int ka), .val (.int (0 : Int32)), .val (.int (d2 + ka)), .unset, .unset, .unset, .unset, .unset, .unset, .unset]) rfl (pc' := 142) rfl ?_
          refine k_iload X825 at_142 rfl (pc' := 144) rfl ?_
          refine k_ifYes X825 at_144 ((if0 _ _).trans (feq uka.2).2) (pc' := 152) (by decide) (by decide) ?_
          refine k_iload X825 at_152 rfl (pc' := 154) rfl ?_
          refine k_iload X825 at_154 rfl (pc' := 156) rfl ?_
          refine k_iadd X825 at_156 (w := (d2 + (0 : Int32))) rfl (pc' := 157) rfl ?_
          refine k_istore X825 at_157 (Ls' := #[.val (.int p0), .val (.int p1), .val (.int p2), .val (.int p3), .val (.int p4), .val (.int p5), .val (.int (1 : Int32)), .val (.int l1), .val (.int l2), .val (.int pbv), .val (.ref r_815), .val (.ref r_821), .val (.int d1), .val (.int d2), .val (.int ka), .val (.int (0 : Int32)), .val (.int (d2 + ka)), .val (.int (d2 + (0 : Int32))), .unset, .unset, .unset, .unset, .unset, .unset]) rfl (pc' := 159) rfl ?_
          have c1061 := (q819_0.keep K825)
          have c1062 := (q819_1.keep K825 nin0)
          have c1063 := (q819_2.keep K825 nin0)
          have c1064 := (q819_3.keep K825 nin0)
          exact j827 _ _ _ _ ka (0 : Int32) (d2 + ka) (d2 + (0 : Int32)) uka.1 own_up0 (Or.inr ⟨uka.2, rfl, rfl⟩) (X825.up (by decide) (by decide)) K0_h825 c1061 c1062 c1063 c1064 q825_0 q825_1 q825_2 q825_3
        · refine k_ifYes X825 at_118 ((if0 _ _).trans (feq hc1060).2) (pc' := 125) (by decide) (by decide) ?_
          refine k_iconst X825 at_125 (w := (1 : Int32)) rfl (pc' := 126) rfl ?_
          refine k_iloadN X825 at_126 rfl (pc' := 127) rfl ?_
          refine k_iconst X825 at_127 (w := (1 : Int32)) rfl (pc' := 128) rfl ?_
          refine k_iushr X825 at_128 (w := ((p3.toUInt32 >>> ((1 : Int32) &&& 31).toUInt32).toInt32)) rfl (pc' := 129) rfl ?_
          refine k_ldcI X825 at_129 (w_35 hw) (pc' := 131) rfl ?_
          refine k_iand X825 at_131 (w := (((p3.toUInt32 >>> ((1 : Int32) &&& 31).toUInt32).toInt32) &&& (268435455 : Int32))) rfl (pc' := 132) rfl ?_
          refine k_iadd X825 at_132 (w := ja) hja (pc' := 133) rfl ?_
          refine k_istore X825 at_133 (Ls' := #[.val (.int p0), .val (.int p1), .val (.int p2), .val (.int p3), .val (.int p4), .val (.int p5), .val (.int (1 : Int32)), .val (.int l1), .val (.int l2), .val (.int pbv), .val (.ref r_815), .val (.ref r_821), .val (.int d1), .val (.int d2), .val (.int ka), .val (.int ja), .unset, .unset, .unset, .unset, .unset, .unset, .unset, .unset]) rfl (pc' := 135) rfl ?_
          refine k_iload X825 at_135 rfl (pc' := 137) rfl ?_
          refine k_iload X825 at_137 rfl (pc' := 139) rfl ?_
          refine k_iadd X825 at_139 (w := (d2 + ka)) rfl (pc' := 140) rfl ?_
          refine k_istore X825 at_140 (Ls' := #[.val (.int p0), .val (.int p1), .val (.int p2), .val (.int p3), .val (.int p4), .val (.int p5), .val (.int (1 : Int32)), .val (.int l1), .val (.int l2), .val (.int pbv), .val (.ref r_815), .val (.ref r_821), .val (.int d1), .val (.int d2), .val (.int ka), .val (.int ja), .val (.int (d2 + ka)), .unset, .unset, .unset, .unset, .unset, .unset, .unset]) rfl (pc' := 142) rfl ?_
          refine k_iload X825 at_142 rfl (pc' := 144) rfl ?_
          refine k_ifYes X825 at_144 ((if0 _ _).trans (feq uka.2).2) (pc' := 152) (by decide) (by decide) ?_
          refine k_iload X825 at_152 rfl (pc' := 154) rfl ?_
          refine k_iload X825 at_154 rfl (pc' := 156) rfl ?_
          refine k_iadd X825 at_156 (w := (d2 + ja)) rfl (pc' := 157) rfl ?_
          refine k_istore X825 at_157 (Ls' := #[.val (.int p0), .val (.int p1), .val (.int p2), .val (.int p3), .val (.int p4), .val (.int p5), .val (.int (1 : Int32)), .val (.int l1), .val (.int l2), .val (.int pbv), .val (.ref r_815), .val (.ref r_821), .val (.int d1), .val (.int d2), .val (.int ka), .val (.int ja), .val (.int (d2 + ka)), .val (.int (d2 + ja)), .unset, .unset, .unset, .unset, .unset, .unset]) rfl (pc' := 159) rfl ?_
          have c1065 := (q819_0.keep K825)
          have c1066 := (q819_1.keep K825 nin0)
          have c1067 := (q819_2.keep K825 nin0)
          have c1068 := (q819_3.keep K825 nin0)
          exact j827 _ _ _ _ ka ja (d2 + ka) (d2 + ja) uka.1 uja.1 (Or.inr ⟨uka.2, rfl, rfl⟩) (X825.up (by decide) (by decide)) K0_h825 c1065 c1066 c1067 c1068 q825_0 q825_1 q825_2 q825_3
    by_cases hc1069 : (((p5.toUInt32 >>> ((5 : Int32) &&& 31).toUInt32).toInt32) &&& (1 : Int32)) = (0 : Int32)
    · refine k_ifYes X0 at_36 ((if0 _ _).trans (teq hc1069).1) (pc' := 43) (by decide) (by decide) ?_
      refine k_iconst X0 at_43 (w := (0 : Int32)) rfl (pc' := 44) rfl ?_
      refine k_istore X0 at_44 (Ls' := #[.val (.int p0), .val (.int p1), .val (.int p2), .val (.int p3), .val (.int p4), .val (.int p5), .val (.int (1 : Int32)), .val (.int l1), .val (.int l2), .val (.int (0 : Int32)), .unset, .unset, .unset, .unset, .unset, .unset, .unset, .unset, .unset, .unset, .unset, .unset, .unset, .unset]) rfl (pc' := 46) rfl ?_
      exact j814 _ _ _ _ (0 : Int32)  (X0.up (by decide) (by decide)) K0_h0 
    · refine k_ifNo X0 at_36 ((if0 _ _).trans (feq hc1069).1) (pc' := 39) rfl ?_
      refine k_iconst X0 at_39 (w := (1 : Int32)) rfl (pc' := 40) rfl ?_
      refine k_goto X0 at_40 (pc' := 44) (by decide) (by decide) ?_
      refine k_istore X0 at_44 (Ls' := #[.val (.int p0), .val (.int p1), .val (.int p2), .val (.int p3), .val (.int p4), .val (.int p5), .val (.int (1 : Int32)), .val (.int l1), .val (.int l2), .val (.int (1 : Int32)), .unset, .unset, .unset, .unset, .unset, .unset, .unset, .unset, .unset, .unset, .unset, .unset, .unset, .unset]) rfl (pc' := 46) rfl ?_
      exact j814 _ _ _ _ (1 : Int32)  (X0.up (by decide) (by decide)) K0_h0 
  · refine k_ifYes X0 at_4 ((if0 _ _).trans (feq hc813).2) (pc' := 11) (by decide) (by decide) ?_
    refine k_iconst X0 at_11 (w := (0 : Int32)) rfl (pc' := 12) rfl ?_
    refine k_istore X0 at_12 (Ls' := #[.val (.int p0), .val (.int p1), .val (.int p2), .val (.int p3), .val (.int p4), .val (.int p5), .val (.int (0 : Int32)), .unset, .unset, .unset, .unset, .unset, .unset, .unset, .unset, .unset, .unset, .unset, .unset, .unset, .unset, .unset, .unset, .unset]) rfl (pc' := 14) rfl ?_
    refine k_iload X0 at_14 rfl (pc' := 16) rfl ?_
    refine k_iconst X0 at_16 (w := (1 : Int32)) rfl (pc' := 17) rfl ?_
    refine k_iushr X0 at_17 (w := ((p5.toUInt32 >>> ((1 : Int32) &&& 31).toUInt32).toInt32)) rfl (pc' := 18) rfl ?_
    refine k_iconst X0 at_18 (w := (3 : Int32)) rfl (pc' := 19) rfl ?_
    refine k_iand X0 at_19 (w := l1) hl1 (pc' := 20) rfl ?_
    refine k_istore X0 at_20 (Ls' := #[.val (.int p0), .val (.int p1), .val (.int p2), .val (.int p3), .val (.int p4), .val (.int p5), .val (.int (0 : Int32)), .val (.int l1), .unset, .unset, .unset, .unset, .unset, .unset, .unset, .unset, .unset, .unset, .unset, .unset, .unset, .unset, .unset, .unset]) rfl (pc' := 22) rfl ?_
    refine k_iload X0 at_22 rfl (pc' := 24) rfl ?_
    refine k_iconst X0 at_24 (w := (3 : Int32)) rfl (pc' := 25) rfl ?_
    refine k_iushr X0 at_25 (w := ((p5.toUInt32 >>> ((3 : Int32) &&& 31).toUInt32).toInt32)) rfl (pc' := 26) rfl ?_
    refine k_iconst X0 at_26 (w := (3 : Int32)) rfl (pc' := 27) rfl ?_
    refine k_iand X0 at_27 (w := l2) hl2 (pc' := 28) rfl ?_
    refine k_istore X0 at_28 (Ls' := #[.val (.int p0), .val (.int p1), .val (.int p2), .val (.int p3), .val (.int p4), .val (.int p5), .val (.int (0 : Int32)), .val (.int l1), .val (.int l2), .unset, .unset, .unset, .unset, .unset, .unset, .unset, .unset, .unset, .unset, .unset, .unset, .unset, .unset, .unset]) rfl (pc' := 30) rfl ?_
    refine k_iload X0 at_30 rfl (pc' := 32) rfl ?_
    refine k_iconst X0 at_32 (w := (5 : Int32)) rfl (pc' := 33) rfl ?_
    refine k_iushr X0 at_33 (w := ((p5.toUInt32 >>> ((5 : Int32) &&& 31).toUInt32).toInt32)) rfl (pc' := 34) rfl ?_
    refine k_iconst X0 at_34 (w := (1 : Int32)) rfl (pc' := 35) rfl ?_
    refine k_iand X0 at_35 (w := (((p5.toUInt32 >>> ((5 : Int32) &&& 31).toUInt32).toInt32) &&& (1 : Int32))) rfl (pc' := 36) rfl ?_
    have j1070 : ∀ (Tj1070 : State) (hj1070 : Heap) (Lj1070 : List Loc) (vj1070 : Vm) (pbv : Int32), WP p l e room_1 (s.setVm vj1070) m #[(.int p0), (.int p1), (.int p2), (.int p3), (.int p4), (.int p5)] below meth c Z "com/example/colophon/colophon/OpenIdsEndElementPinLaw" "law" code 24 (some .boolean) n0 (InvH Z a0 EL s vj1070) (Safe Z EL vj1070) Tj1070 hj1070 Lj1070 0 0 → Keep h0 hj1070 [] → Run p.tables e below (PH Z EL s below n0 h0 [] (fun r v' h' => ∃ w, r = some w ∧ w = .int (1 : Int32) ∧ True) room_1.cells room_1.slots) Tj1070 (mkF m 46 #[.val (.int p0), .val (.int p1), .val (.int p2), .val (.int p3), .val (.int p4), .val (.int p5), .val (.int (0 : Int32)), .val (.int l1), .val (.int l2), .val (.int pbv), .unset, .unset, .unset, .unset, .unset, .unset, .unset, .unset, .unset, .unset, .unset, .unset, .unset, .unset] []) := by
      intro Tj1070 hj1070 Lj1070 vj1070 pbv  Xj1070 Kj1070 
      have nlej1070 := Xj1070.n0le
      have lhj1070 := Kj1070.1
      refine k_iload Xj1070 at_46 rfl (pc' := 48) rfl ?_
      refine k_iload Xj1070 at_48 rfl (pc' := 50) rfl ?_
      refine k_callSVH Xj1070 (y := (⟨"com/example/colophon/colophon/OpenIdsEndElementPinLaw", "mk", "(II)Ljava/lang/String;"⟩ : MethodName)) at_50 (w_0 hw) (w_1 hw) (w_2 hw) (w_3 hw) (by decide) (argsL := [(.int l1), (.int p4)]) (rest := []) (own_mk l Z a0 hw G n0 hj1070 Xj1070.old l1 p4 gl1 ) rfl pd_22 rfl rfl (by decide) (W := 0) (Nat.le_of_eq rfl) (by decide) (by decide) (by decide) all0 (pc' := 53) rfl ?_
      rintro _ v1075 T1075 h1075 L1075 X1075 K1075 C1075 ⟨r_1071, t_1072, kt_1073, cs_1074, rfl, q1075_0, q1075_1, q1075_2, q1075_3, q1075_4⟩
      have sz_h1075 := K1075.1
      have K0_h1075 : Keep h0 h1075 [] := Kj1070.trans K1075 all0
      have lt1075_0 := own_n q1075_0.lt
      have lt1075_1 := own_n q1075_1.lt
      have lt1075_2 := own_n q1075_2.lt
      have lt1075_3 := own_n q1075_3.lt
      refine k_astore X1075 at_53 rfl (Ls' := #[.val (.int p0), .val (.int p1), .val (.int p2), .val (.int p3), .val (.int p4), .val (.int p5), .val (.int (0 : Int32)), .val (.int l1), .val (.int l2), .val (.int pbv), .val (.ref r_1071), .unset, .unset, .unset, .unset, .unset, .unset, .unset, .unset, .unset, .unset, .unset, .unset, .unset]) rfl (pc' := 55) rfl ?_
      refine k_iload X1075 at_55 rfl (pc' := 57) rfl ?_
      refine k_ifYes X1075 at_57 (by decide) (pc' := 73) (by decide) (by decide) ?_
      refine k_aconstNull X1075 at_73 (pc' := 74) rfl ?_
      refine k_astore X1075 at_74 rfl (Ls' := #[.val (.int p0), .val (.int p1), .val (.int p2), .val (.int p3), .val (.int p4), .val (.int p5), .val (.int (0 : Int32)), .val (.int l1), .val (.int l2), .val (.int pbv), .val (.ref r_1071), .val .null, .unset, .unset, .unset, .unset, .unset, .unset, .unset, .unset, .unset, .unset, .unset, .unset]) rfl (pc' := 76) rfl ?_
      refine k_iconst X1075 at_76 (w := (1 : Int32)) rfl (pc' := 77) rfl ?_
      refine k_iloadN X1075 at_77 rfl (pc' := 78) rfl ?_
      refine k_ldcI X1075 at_78 (w_34 hw) (pc' := 80) rfl ?_
      refine k_iand X1075 at_80 (w := (p0 &&& (1073741823 : Int32))) rfl (pc' := 81) rfl ?_
      refine k_iadd X1075 at_81 (w := d1) hd1 (pc' := 82) rfl ?_
      refine k_istore X1075 at_82 (Ls' := #[.val (.int p0), .val (.int p1), .val (.int p2), .val (.int p3), .val (.int p4), .val (.int p5), .val (.int (0 : Int32)), .val (.int l1), .val (.int l2), .val (.int pbv), .val (.ref r_1071), .val .null, .val (.int d1), .unset, .unset, .unset, .unset, .unset, .unset, .unset, .unset, .unset, .unset, .unset]) rfl (pc' := 84) rfl ?_
      refine k_iload X1075 at_84 rfl (pc' := 86) rfl ?_
      refine k_iconst X1075 at_86 (w := (1 : Int32)) rfl (pc' := 87) rfl ?_
      refine k_iadd X1075 at_87 (w := (d1 + (1 : Int32))) rfl (pc' := 88) rfl ?_
      refine k_iloadN X1075 at_88 rfl (pc' := 89) rfl ?_
      refine k_ldcI X1075 at_89 (w_35 hw) (pc' := 91) rfl ?_
      refine k_iand X1075 at_91 (w := (p1 &&& (268435455 : Int32))) rfl (pc' := 92) rfl ?_
      refine k_iadd X1075 at_92 (w := d2) hd2 (pc' := 93) rfl ?_
      refine k_istore X1075 at_93 (Ls' := #[.val (.int p0), .val (.int p1), .val (.int p2), .val (.int p3), .val (.int p4), .val (.int p5), .val (.int (0 : Int32)), .val (.int l1), .val (.int l2), .val (.int pbv), .val (.ref r_1071), .val .null, .val (.int d1), .val (.int d2), .unset, .unset, .unset, .unset, .unset, .unset, .unset, .unset, .unset, .unset]) rfl (pc' := 95) rfl ?_
      refine k_iloadN X1075 at_95 rfl (pc' := 96) rfl ?_
      refine k_iconst X1075 at_96 (w := (1 : Int32)) rfl (pc' := 97) rfl ?_
      refine k_iand X1075 at_97 (w := (p2 &&& (1 : Int32))) rfl (pc' := 98) rfl ?_
      have j1077 : ∀ (Tj1077 : State) (hj1077 : Heap) (Lj1077 : List Loc) (vj1077 : Vm) (k j e1 e2 : Int32), own_up k → own_up j → ((k = 0 ∧ d2 = e1 ∧ d1 + j = e2) ∨ (¬ k = 0 ∧ d2 + k = e1 ∧ d2 + j = e2)) → WP p l e room_1 (s.setVm vj1077) m #[(.int p0), (.int p1), (.int p2), (.int p3), (.int p4), (.int p5)] below meth c Z "com/example/colophon/colophon/OpenIdsEndElementPinLaw" "law" code 24 (some .boolean) n0 (InvH Z a0 EL s vj1077) (Safe Z EL vj1077) Tj1077 hj1077 Lj1077 6 12 → Keep h0 hj1077 [] → Exa Z hj1077 r_1071 "java/lang/String" → Fld Z hj1077 r_1071 "java/lang/String" "value" "[B" (.ref t_1072) → Fld Z hj1077 r_1071 "java/lang/String" "coder" "B" (.int (0 : Int32)) → Arv Z hj1077 t_1072 kt_1073 .byte (Int32.ofNat cs_1074.length) (own_lat cs_1074) (.int (0 : Int32)) → Run p.tables e below (PH Z EL s below n0 h0 [] (fun r v' h' => ∃ w, r = some w ∧ w = .int (1 : Int32) ∧ True) room_1.cells room_1.slots) Tj1077 (mkF m 159 #[.val (.int p0), .val (.int p1), .val (.int p2), .val (.int p3), .val (.int p4), .val (.int p5), .val (.int (0 : Int32)), .val (.int l1), .val (.int l2), .val (.int pbv), .val (.ref r_1071), .val .null, .val (.int d1), .val (.int d2), .val (.int k), .val (.int j), .val (.int e1), .val (.int e2), .unset, .unset, .unset, .unset, .unset, .unset] []) := by
        intro Tj1077 hj1077 Lj1077 vj1077 k j e1 e2 huk huj hR Xj1077 Kj1077 fj1077_0 fj1077_1 fj1077_2 fj1077_3
        have nlej1077 := Xj1077.n0le
        have lhj1077 := Kj1077.1
        have ltj1077_0 := own_n fj1077_0.lt
        have ltj1077_3 := own_n fj1077_3.lt
        have m1 := q1075_4
        have m1l := m1.2.1
        have lt_r_1071 := own_n fj1077_0.lt
        have lt_t_1072 := own_n fj1077_3.lt
        refine k_newO Xj1077 at_159 (w_36 hw) (w_37 hw) (w_38 hw) (by decide) (by decide) (pc' := 162) rfl fun T1078 h1078 b1078 g1078 X1078 K1078 E1078 D1078 S1078 lt1078 ge1078 => ?_
        have sz_h1078 := K1078.1
        have K0_h1078 : Keep h0 h1078 [] := Kj1077.trans K1078 all0
        have Fn1078_characters : Fld Z h1078 b1078 "com/example/colophon/colophon/OpenIds" "characters" "Ljava/lang/StringBuilder;" .null := D1078 (Or.inr (w_62 hw)) (ty := (.object "java/lang/StringBuilder")) (by decide)
        have Fn1078_depths : Fld Z h1078 b1078 "com/example/colophon/colophon/OpenIds" "depths" "[I" .null := D1078 (Or.inl (w_65 hw)) (ty := (.array .int)) (by decide)
        have Fn1078_starts : Fld Z h1078 b1078 "com/example/colophon/colophon/OpenIds" "starts" "[I" .null := D1078 (Or.inl (w_67 hw)) (ty := (.array .int)) (by decide)
        have Fn1078_count : Fld Z h1078 b1078 "com/example/colophon/colophon/OpenIds" "count" "I" (.int (0 : Int32)) := D1078 (Or.inl (w_74 hw)) (ty := .int) (by decide)
        have Fn1078_innermost : Fld Z h1078 b1078 "com/example/colophon/colophon/OpenIds" "innermost" "Ljava/lang/String;" .null := D1078 (Or.inl (w_132 hw)) (ty := (.object "java/lang/String")) (by decide)
        refine k_dup X1078 at_162 rfl (pc' := 163) rfl ?_
        have ge1079 : n0 ≤ b1078 := by omega
        refine k_callPNF X1078 (y := (⟨"com/example/colophon/colophon/OpenIds", "<init>", "()V"⟩ : MethodName)) at_163 (w_39 hw) (w_40 hw) (w_38 hw) (w_41 hw) (by decide) rfl rfl (argsL := []) (rest := [(.ref b1078)]) (own_oiI l Z a0 hw G n0 h1078 X1078.old b1078 ge1079 E1078 Fn1078_characters Fn1078_depths Fn1078_starts Fn1078_count Fn1078_innermost) rfl pd_16 rfl rfl (by decide) (W := 1) (Nat.le_of_eq rfl) (by decide) (by decide) (by decide) (allS ⟨S1078, ge1079⟩ all0) (pc' := 166) rfl ?_
        rintro T1087 h1087 L1087 X1087 K1087 ⟨sb_1080, bv_1081, dp_1082, sp_1083, kb_1084, kd_1085, ks_1086, q1087_0, q1087_1, q1087_2, q1087_3, q1087_4, q1087_5, q1087_6, q1087_7, q1087_8, q1087_9, q1087_10, q1087_11, q1087_12, q1087_13, q1087_14, q1087_15, q1087_16, q1087_17, q1087_18⟩
        have sz_h1087 := K1087.1
        have od1088 : h0.size ≤ b1078 := by omega
        have K0_h1087 : Keep h0 h1087 [] := K0_h1078.trans K1087 (allS (Or.inr od1088) all0)
        have lt1087_0 := own_n q1087_0.lt
        have lt1087_1 := own_n q1087_1.lt
        have lt1087_2 := own_n q1087_2.lt
        have lt1087_3 := own_n q1087_3.lt
        have lt1087_4 := own_n q1087_4.lt
        have lt1087_5 := own_n q1087_5.lt
        have lt1087_6 := own_n q1087_6.lt
        have lt1087_7 := own_n q1087_7.lt
        have lt1087_8 := own_n q1087_8.lt
        have lt1087_9 := own_n q1087_9.lt
        have lt1087_10 := own_n q1087_10.lt
        have lt1087_11 := own_n q1087_11.lt
        have lt1087_12 := own_n q1087_12.lt
        have lt1087_13 := own_n q1087_13.lt
        have sn1087_14 := X1078.sf K1087 (allS ⟨S1078, ge1079⟩ all0) (X1078.sfN q1087_14)
        have sn1087_15 := X1078.sf K1087 (allS ⟨S1078, ge1079⟩ all0) (X1078.sfN q1087_15)
        have sn1087_16 := X1078.sf K1087 (allS ⟨S1078, ge1079⟩ all0) (X1078.sfN q1087_16)
        have sn1087_17 := X1078.sf K1087 (allS ⟨S1078, ge1079⟩ all0) (X1078.sfN q1087_17)
        obtain ⟨or1, or2, or3⟩ := q1087_18
        have lB1 : (own_put (List.replicate 16 (0 : Int32)) 0 cs_1074).length = 16 := by rw [own_put_len (by rw [List.length_replicate]; omega)]; simp
        refine k_astore X1087 at_166 rfl (Ls' := #[.val (.int p0), .val (.int p1), .val (.int p2), .val (.int p3), .val (.int p4), .val (.int p5), .val (.int (0 : Int32)), .val (.int l1), .val (.int l2), .val (.int pbv), .val (.ref r_1071), .val .null, .val (.int d1), .val (.int d2), .val (.int k), .val (.int j), .val (.int e1), .val (.int e2), .val (.ref b1078), .unset, .unset, .unset, .unset, .unset]) rfl (pc' := 168) rfl ?_
        refine k_aload X1087 at_168 rfl rfl (pc' := 170) rfl ?_
        refine k_iload X1087 at_170 rfl (pc' := 172) rfl ?_
        refine k_aload X1087 at_172 rfl rfl (pc' := 174) rfl ?_
        have c1089 := ((fj1077_0.keep K1078).keep K1087)
        have ne1090 : (r_1071 : Nat) ≠ b1078 := own_ne (by omega)
        have c1091 := ((fj1077_1.keep K1078 nin0).keep K1087 (ninS ne1090 nin0))
        have c1092 := ((fj1077_2.keep K1078 nin0).keep K1087 (ninS ne1090 nin0))
        have ne1093 : (t_1072 : Nat) ≠ b1078 := own_ne (by omega)
        have c1094 := ((fj1077_3.keep K1078 nin0).keep K1087 (ninS ne1093 nin0))
        have ge1095 : n0 ≤ sb_1080 := by omega
        have ge1096 : n0 ≤ bv_1081 := by omega
        have ge1097 : n0 ≤ dp_1082 := by omega
        have ge1098 : n0 ≤ sp_1083 := by omega
        have c1099 := (X1078.sf K1087 (allS ⟨S1078, ge1079⟩ all0) S1078)
        refine k_callVNF X1087 (y := (⟨"com/example/colophon/colophon/OpenIds", "startElement", "(ILjava/lang/String;)V"⟩ : MethodName)) at_174 (w_68 hw) (w_69 hw) (w_71 hw) (w_70 hw) (w_38 hw) (w_72 hw) (by decide) (notFace_of_selects (args := #[]) (mvT X1087.hZ (w_71 hw))) q1087_0 (argsL := [(.int d1), (.ref r_1071)]) (rest := []) (own_st0 l Z a0 hw G n0 h1087 X1087.old b1078 sb_1080 dp_1082 sp_1083 kd_1085 ks_1086 bv_1081 kb_1084 (0 : Int32) (List.replicate 16 (0 : Int32)) (0 : Int32) d1 r_1071 t_1072 kt_1073 cs_1074 0 rfl (by simp) (by omega) (m1.1) (by simp only [own_far, List.forall_mem_cons, List.not_mem_nil, false_implies, implies_true, and_true]; omega) (by simp only [own_far, List.forall_mem_cons, List.not_mem_nil, false_implies, implies_true, and_true]; omega) ge1079 ge1095 ge1096 ge1097 ge1098 q1087_0 q1087_1 q1087_2 q1087_3 q1087_4 q1087_5 q1087_6 q1087_7 q1087_8 q1087_9 q1087_10 q1087_11 q1087_12 q1087_13 c1089 c1091 c1092 c1094) rfl pd_13 rfl rfl (by decide) (W := 0) (Nat.le_of_eq rfl) (by decide) (by decide) (by decide) (allS ⟨c1099, ge1079⟩ (allS ⟨sn1087_14, ge1095⟩ (allS ⟨sn1087_15, ge1096⟩ (allS ⟨sn1087_16, ge1097⟩ (allS ⟨sn1087_17, ge1098⟩ all0))))) (pc' := 177) rfl ?_
        rintro T1100 h1100 L1100 X1100 K1100 ⟨q1100_0, q1100_1, q1100_2, q1100_3, q1100_4, q1100_5, q1100_6, q1100_7, q1100_8, q1100_9, q1100_10, q1100_11, q1100_12, q1100_13⟩
        have sz_h1100 := K1100.1
        have od1101 : h0.size ≤ sp_1083 := by omega
        have od1102 : h0.size ≤ dp_1082 := by omega
        have od1103 : h0.size ≤ bv_1081 := by omega
        have od1104 : h0.size ≤ sb_1080 := by omega
        have K0_h1100 : Keep h0 h1100 [] := K0_h1087.trans K1100 (allS (Or.inr od1088) (allS (Or.inr od1104) (allS (Or.inr od1103) (allS (Or.inr od1102) (allS (Or.inr od1101) all0)))))
        have lt1100_0 := own_n q1100_0.lt
        have lt1100_1 := own_n q1100_1.lt
        have lt1100_2 := own_n q1100_2.lt
        have lt1100_3 := own_n q1100_3.lt
        have lt1100_4 := own_n q1100_4.lt
        have lt1100_5 := own_n q1100_5.lt
        have lt1100_6 := own_n q1100_6.lt
        have lt1100_7 := own_n q1100_7.lt
        have lt1100_8 := own_n q1100_8.lt
        have lt1100_9 := own_n q1100_9.lt
        have lt1100_10 := own_n q1100_10.lt
        have lt1100_11 := own_n q1100_11.lt
        have lt1100_12 := own_n q1100_12.lt
        have lt1100_13 := own_n q1100_13.lt
        have en1 : (Int32.ofNat (0 + cs_1074.length)) = Int32.ofNat cs_1074.length := by rw [Nat.zero_add]
        refine k_aload X1100 at_177 rfl rfl (pc' := 179) rfl ?_
        refine k_iload X1100 at_179 rfl (pc' := 181) rfl ?_
        refine k_aload X1100 at_181 rfl rfl (pc' := 183) rfl ?_
        refine k_callVNF X1100 (y := (⟨"com/example/colophon/colophon/OpenIds", "startElement", "(ILjava/lang/String;)V"⟩ : MethodName)) at_183 (w_68 hw) (w_69 hw) (w_71 hw) (w_70 hw) (w_38 hw) (w_72 hw) (by decide) (notFace_of_selects (args := #[]) (mvT X1100.hZ (w_71 hw))) q1100_0 (argsL := [(.int d2), .null]) (rest := []) (own_stN l Z a0 hw G n0 h1100 X1100.old b1078 d2 ) rfl pd_13 rfl rfl (by decide) (W := 0) (Nat.le_of_eq rfl) (by decide) (by decide) (by decide) all0 (pc' := 186) rfl ?_
        rintro T1105 h1105 L1105 X1105 K1105 -
        have sz_h1105 := K1105.1
        have K0_h1105 : Keep h0 h1105 [] := K0_h1100.trans K1105 all0
        have hoi1 : b1078 < r_1071 ∨ r_1071 < b1078 := by omega
        have hot1 : b1078 < t_1072 ∨ t_1072 < b1078 := by omega
        have hfr5 : own_far [b1078, sb_1080, bv_1081, dp_1082, sp_1083] := (by simp only [own_far, List.forall_mem_cons, List.not_mem_nil, false_implies, implies_true, and_true]; omega)
        have j1106 : ∀ (Tj1106 : State) (hj1106 : Heap) (Lj1106 : List Loc) (vj1106 : Vm), WP p l e room_1 (s.setVm vj1106) m #[(.int p0), (.int p1), (.int p2), (.int p3), (.int p4), (.int p5)] below meth c Z "com/example/colophon/colophon/OpenIdsEndElementPinLaw" "law" code 24 (some .boolean) n0 (InvH Z a0 EL s vj1106) (Safe Z EL vj1106) Tj1106 hj1106 Lj1106 11 69 → Keep h0 hj1106 [] → Exa Z hj1106 r_1071 "java/lang/String" → Fld Z hj1106 r_1071 "java/lang/String" "value" "[B" (.ref t_1072) → Fld Z hj1106 r_1071 "java/lang/String" "coder" "B" (.int (0 : Int32)) → Arv Z hj1106 t_1072 kt_1073 .byte (Int32.ofNat cs_1074.length) (own_lat cs_1074) (.int (0 : Int32)) → Exa Z hj1106 b1078 "com/example/colophon/colophon/OpenIds" → Fld Z hj1106 b1078 "com/example/colophon/colophon/OpenIds" "characters" "Ljava/lang/StringBuilder;" (.ref sb_1080) → Fld Z hj1106 b1078 "com/example/colophon/colophon/OpenIds" "depths" "[I" (.ref dp_1082) → Fld Z hj1106 b1078 "com/example/colophon/colophon/OpenIds" "starts" "[I" (.ref sp_1083) → Fld Z hj1106 b1078 "com/example/colophon/colophon/OpenIds" "count" "I" (.int (1 : Int32)) → Fld Z hj1106 b1078 "com/example/colophon/colophon/OpenIds" "innermost" "Ljava/lang/String;" (.ref r_1071) → Exa Z hj1106 sb_1080 "java/lang/StringBuilder" → Fld Z hj1106 sb_1080 "java/lang/AbstractStringBuilder" "value" "[B" (.ref bv_1081) → Fld Z hj1106 sb_1080 "java/lang/AbstractStringBuilder" "coder" "B" (.int (0 : Int32)) → Fld Z hj1106 sb_1080 "java/lang/AbstractStringBuilder" "count" "I" (.int (Int32.ofNat (0 + cs_1074.length))) → Fld Z hj1106 sb_1080 "java/lang/AbstractStringBuilder" "maybeLatin1" "Z" (.int (0 : Int32)) → Arv Z hj1106 bv_1081 kb_1084 .byte (16 : Int32) (own_lat (own_put (List.replicate 16 (0 : Int32)) 0 cs_1074)) (.int (0 : Int32)) → Arv Z hj1106 dp_1082 kd_1085 .int (16 : Int32) [(.int d1), (.int (0 : Int32)), (.int (0 : Int32)), (.int (0 : Int32)), (.int (0 : Int32)), (.int (0 : Int32)), (.int (0 : Int32)), (.int (0 : Int32)), (.int (0 : Int32)), (.int (0 : Int32)), (.int (0 : Int32)), (.int (0 : Int32)), (.int (0 : Int32)), (.int (0 : Int32)), (.int (0 : Int32)), (.int (0 : Int32))] (.int (0 : Int32)) → Arv Z hj1106 sp_1083 ks_1086 .int (16 : Int32) [(.int (0 : Int32)), (.int (0 : Int32)), (.int (0 : Int32)), (.int (0 : Int32)), (.int (0 : Int32)), (.int (0 : Int32)), (.int (0 : Int32)), (.int (0 : Int32)), (.int (0 : Int32)), (.int (0 : Int32)), (.int (0 : Int32)), (.int (0 : Int32)), (.int (0 : Int32)), (.int (0 : Int32)), (.int (0 : Int32)), (.int (0 : Int32))] (.int (0 : Int32)) → Safe Z EL vj1106 hj1106 bv_1081 → Run p.tables e below (PH Z EL s below n0 h0 [] (fun r v' h' => ∃ w, r = some w ∧ w = .int (1 : Int32) ∧ True) room_1.cells room_1.slots) Tj1106 (mkF m 232 #[.val (.int p0), .val (.int p1), .val (.int p2), .val (.int p3), .val (.int p4), .val (.int p5), .val (.int (0 : Int32)), .val (.int l1), .val (.int l2), .val (.int pbv), .val (.ref r_1071), .val .null, .val (.int d1), .val (.int d2), .val (.int k), .val (.int j), .val (.int e1), .val (.int e2), .val (.ref b1078), .val (.int (1 : Int32)), .unset, .unset, .unset, .unset] []) := by
          intro Tj1106 hj1106 Lj1106 vj1106   Xj1106 Kj1106 fj1106_0 fj1106_1 fj1106_2 fj1106_3 fj1106_4 fj1106_5 fj1106_6 fj1106_7 fj1106_8 fj1106_9 fj1106_10 fj1106_11 fj1106_12 fj1106_13 fj1106_14 fj1106_15 fj1106_16 fj1106_17 fj1106_18
          have nlej1106 := Xj1106.n0le
          have lhj1106 := Kj1106.1
          have ltj1106_0 := own_n fj1106_0.lt
          have ltj1106_3 := own_n fj1106_3.lt
          have ltj1106_4 := own_n fj1106_4.lt
          have ltj1106_10 := own_n fj1106_10.lt
          have ltj1106_15 := own_n fj1106_15.lt
          have ltj1106_16 := own_n fj1106_16.lt
          have ltj1106_17 := own_n fj1106_17.lt
          rcases hR with ⟨hk0, he1, he2⟩ | ⟨hk0, he1, he2⟩
          · subst he1 he2
            subst hk0
            refine k_iload Xj1106 at_232 rfl (pc' := 234) rfl ?_
            refine k_ifYes Xj1106 at_234 (by decide) (pc' := 246) (by decide) (by decide) ?_
            refine k_iconst Xj1106 at_246 (w := (0 : Int32)) rfl (pc' := 247) rfl ?_
            refine k_istore Xj1106 at_247 (Ls' := #[.val (.int p0), .val (.int p1), .val (.int p2), .val (.int p3), .val (.int p4), .val (.int p5), .val (.int (0 : Int32)), .val (.int l1), .val (.int l2), .val (.int pbv), .val (.ref r_1071), .val .null, .val (.int d1), .val (.int d2), .val (.int (0 : Int32)), .val (.int j), .val (.int d2), .val (.int (d1 + j)), .val (.ref b1078), .val (.int (1 : Int32)), .val (.int (0 : Int32)), .unset, .unset, .unset]) rfl (pc' := 249) rfl ?_
            refine k_iload Xj1106 at_249 rfl (pc' := 251) rfl ?_
            refine k_ifYes Xj1106 at_251 (by decide) (pc' := 261) (by decide) (by decide) ?_
            refine k_iload Xj1106 at_261 rfl (pc' := 263) rfl ?_
            refine k_istore Xj1106 at_263 (Ls' := #[.val (.int p0), .val (.int p1), .val (.int p2), .val (.int p3), .val (.int p4), .val (.int p5), .val (.int (0 : Int32)), .val (.int l1), .val (.int l2), .val (.int pbv), .val (.ref r_1071), .val .null, .val (.int d1), .val (.int d2), .val (.int (0 : Int32)), .val (.int j), .val (.int d2), .val (.int (d1 + j)), .val (.ref b1078), .val (.int (1 : Int32)), .val (.int (0 : Int32)), .val (.int (1 : Int32)), .unset, .unset]) rfl (pc' := 265) rfl ?_
            refine k_aload Xj1106 at_265 rfl rfl (pc' := 267) rfl ?_
            refine k_iload Xj1106 at_267 rfl (pc' := 269) rfl ?_
            refine k_callVNF Xj1106 (y := (⟨"com/example/colophon/colophon/OpenIds", "endElement", "(I)V"⟩ : MethodName)) at_269 (w_133 hw) (w_134 hw) (w_136 hw) (w_135 hw) (w_38 hw) (w_137 hw) (by decide) (notFace_of_selects (args := #[]) (mvT Xj1106.hZ (w_136 hw))) fj1106_4 (argsL := [(.int d2)]) (rest := []) (own_enNo1 l Z a0 hw G n0 hj1106 Xj1106.old b1078 dp_1082 kd_1085 d2 d1 (0 : Int32) (fun q => own_deep hd1 hd2 own_up0 (by rw [Int32.add_zero]; exact q)) fj1106_8 fj1106_6 fj1106_16) rfl pd_9 rfl rfl (by decide) (W := 0) (Nat.le_of_eq rfl) (by decide) (by decide) (by decide) all0 (pc' := 272) rfl ?_
            rintro T1107 h1107 L1107 X1107 K1107 -
            have sz_h1107 := K1107.1
            have K0_h1107 : Keep h0 h1107 [] := Kj1106.trans K1107 all0
            refine k_aload X1107 at_272 rfl rfl (pc' := 274) rfl ?_
            refine k_iload X1107 at_274 rfl (pc' := 276) rfl ?_
            refine k_aload X1107 at_276 rfl rfl (pc' := 278) rfl ?_
            refine k_aload X1107 at_278 rfl rfl (pc' := 280) rfl ?_
            refine k_iload X1107 at_280 rfl (pc' := 282) rfl ?_
            refine k_iload X1107 at_282 rfl (pc' := 284) rfl ?_
            have c1108 := (fj1106_4.keep K1107)
            have c1109 := (fj1106_9.keep K1107 nin0)
            have c1110 := (fj1106_5.keep K1107 nin0)
            have c1111 := (fj1106_10.keep K1107)
            have c1112 := (fj1106_13.keep K1107 nin0)
            have c1113 := (fj1106_0.keep K1107)
            have c1114 := (fj1106_1.keep K1107 nin0)
            have c1115 := (fj1106_2.keep K1107 nin0)
            have c1116 := (fj1106_3.keep K1107 nin0)
            refine k_callSVF X1107 (y := (⟨"com/example/colophon/colophon/OpenIdsEndElementPinLaw", "state", "(Lcom/example/colophon/colophon/OpenIds;ILjava/lang/String;Ljava/lang/String;II)Z"⟩ : MethodName)) at_284 (w_138 hw) (w_139 hw) (w_2 hw) (w_140 hw) (by decide) (argsL := [(.ref b1078), (.int (1 : Int32)), (.ref r_1071), .null, (.int l1), (.int l2)]) (rest := []) (own_stt1n l Z a0 hw G n0 h1107 X1107.old b1078 r_1071 l1 l2 sb_1080 r_1071 (Int32.ofNat (0 + cs_1074.length)) cs_1074 t_1072 kt_1073 t_1072 kt_1073 (m1.1) (by omega) (en1.trans m1.2.2.symm) c1108 c1109 c1110 c1111 c1112 c1113 c1114 c1115 c1116 c1113 c1114 c1115 c1116) rfl pd_27 rfl rfl (by decide) (W := 0) (Nat.le_of_eq rfl) (by decide) (by decide) (by decide) all0 (pc' := 287) rfl ?_
            rintro _ T1117 h1117 L1117 X1117 K1117 ⟨rfl, -⟩
            have sz_h1117 := K1117.1
            have K0_h1117 : Keep h0 h1117 [] := K0_h1107.trans K1117 all0
            refine k_ifYes X1117 at_287 (by decide) (pc' := 292) (by decide) (by decide) ?_
            refine k_iload X1117 at_292 rfl (pc' := 294) rfl ?_
            refine k_ifNo X1117 at_294 (by decide) (pc' := 297) rfl ?_
            by_cases hc1119 : j = (0 : Int32)
            · subst hc1119
              refine k_iload X1117 at_297 rfl (pc' := 299) rfl ?_
              refine k_ifNo X1117 at_299 (by decide) (pc' := 302) rfl ?_
              refine k_iconst X1117 at_302 (w := (1 : Int32)) rfl (pc' := 303) rfl ?_
              refine k_goto X1117 at_303 (pc' := 325) (by decide) (by decide) ?_
              refine k_istore X1117 at_325 (Ls' := #[.val (.int p0), .val (.int p1), .val (.int p2), .val (.int p3), .val (.int p4), .val (.int p5), .val (.int (0 : Int32)), .val (.int l1), .val (.int l2), .val (.int pbv), .val (.ref r_1071), .val .null, .val (.int d1), .val (.int d2), .val (.int (0 : Int32)), .val (.int (0 : Int32)), .val (.int d2), .val (.int (d1 + (0 : Int32))), .val (.ref b1078), .val (.int (1 : Int32)), .val (.int (0 : Int32)), .val (.int (1 : Int32)), .val (.int (1 : Int32)), .unset]) rfl (pc' := 327) rfl ?_
              refine k_iload X1117 at_327 rfl (pc' := 329) rfl ?_
              refine k_ifNo X1117 at_329 (by decide) (pc' := 332) rfl ?_
              refine k_iload X1117 at_332 rfl (pc' := 334) rfl ?_
              refine k_iconst X1117 at_334 (w := (1 : Int32)) rfl (pc' := 335) rfl ?_
              refine k_isub X1117 at_335 (w := (0 : Int32)) (by decide) (pc' := 336) rfl ?_
              refine k_goto X1117 at_336 (pc' := 341) (by decide) (by decide) ?_
              refine k_istore X1117 at_341 (Ls' := #[.val (.int p0), .val (.int p1), .val (.int p2), .val (.int p3), .val (.int p4), .val (.int p5), .val (.int (0 : Int32)), .val (.int l1), .val (.int l2), .val (.int pbv), .val (.ref r_1071), .val .null, .val (.int d1), .val (.int d2), .val (.int (0 : Int32)), .val (.int (0 : Int32)), .val (.int d2), .val (.int (d1 + (0 : Int32))), .val (.ref b1078), .val (.int (1 : Int32)), .val (.int (0 : Int32)), .val (.int (1 : Int32)), .val (.int (1 : Int32)), .val (.int (0 : Int32))]) rfl (pc' := 343) rfl ?_
              refine k_aload X1117 at_343 rfl rfl (pc' := 345) rfl ?_
              refine k_iload X1117 at_345 rfl (pc' := 347) rfl ?_
              have c1120 := (c1108.keep K1117)
              have c1121 := (c1110.keep K1117 nin0)
              have c1122 := ((fj1106_6.keep K1107 nin0).keep K1117 nin0)
              have c1123 := ((fj1106_7.keep K1107 nin0).keep K1117 nin0)
              have c1124 := ((fj1106_8.keep K1107 nin0).keep K1117 nin0)
              have c1125 := (c1109.keep K1117 nin0)
              have c1126 := (c1111.keep K1117)
              have c1127 := ((fj1106_11.keep K1107 nin0).keep K1117 nin0)
              have c1128 := ((fj1106_12.keep K1107 nin0).keep K1117 nin0)
              have c1129 := (c1112.keep K1117 nin0)
              have c1130 := ((fj1106_14.keep K1107 nin0).keep K1117 nin0)
              have c1131 := ((fj1106_15.keep K1107 nin0).keep K1117 nin0)
              have c1132 := ((fj1106_16.keep K1107 nin0).keep K1117 nin0)
              have c1133 := ((fj1106_17.keep K1107 nin0).keep K1117 nin0)
              refine k_callVNF X1117 (y := (⟨"com/example/colophon/colophon/OpenIds", "endElement", "(I)V"⟩ : MethodName)) at_347 (w_133 hw) (w_134 hw) (w_136 hw) (w_135 hw) (w_38 hw) (w_137 hw) (by decide) (notFace_of_selects (args := #[]) (mvT X1117.hZ (w_136 hw))) c1120 (argsL := [(.int (d1 + (0 : Int32)))]) (rest := []) (own_enYes1 l Z a0 hw G n0 h1117 X1117.old b1078 sb_1080 dp_1082 sp_1083 kd_1085 ks_1086 bv_1081 kb_1084 (Int32.ofNat (0 + cs_1074.length)) (own_put (List.replicate 16 (0 : Int32)) 0 cs_1074) (0 : Int32) (d1 + (0 : Int32)) r_1071 d1 (0 : Int32) (0 : Int32) (0 : Int32) (cs_1074.length) 0 (Int32.add_zero _).symm rfl en1 (by omega) (by omega) hfr5 ge1079 ge1095 c1120 c1121 c1122 c1123 c1124 c1125 c1126 c1127 c1128 c1129 c1130 c1131 c1132 c1133) rfl pd_9 rfl rfl (by decide) (W := 0) (Nat.le_of_eq rfl) (by decide) (by decide) (by decide) (allS ⟨(X1117.sfE c1120), ge1079⟩ (allS ⟨(X1117.sfE c1126), ge1095⟩ all0)) (pc' := 350) rfl ?_
              rintro T1135 h1135 L1135 X1135 K1135 ⟨mc_1134, q1135_0, q1135_1, q1135_2, q1135_3, q1135_4, q1135_5, q1135_6, q1135_7, q1135_8, q1135_9, q1135_10⟩
              have sz_h1135 := K1135.1
              have K0_h1135 : Keep h0 h1135 [] := K0_h1117.trans K1135 (allS (Or.inr od1088) (allS (Or.inr od1104) all0))
              have lt1135_0 := own_n q1135_0.lt
              have lt1135_1 := own_n q1135_1.lt
              have lt1135_2 := own_n q1135_2.lt
              have lt1135_3 := own_n q1135_3.lt
              have lt1135_4 := own_n q1135_4.lt
              have lt1135_5 := own_n q1135_5.lt
              have lt1135_6 := own_n q1135_6.lt
              have lt1135_7 := own_n q1135_7.lt
              have lt1135_8 := own_n q1135_8.lt
              have lt1135_9 := own_n q1135_9.lt
              have lt1135_10 := own_n q1135_10.lt
              refine k_aload X1135 at_350 rfl rfl (pc' := 352) rfl ?_
              refine k_iload X1135 at_352 rfl (pc' := 354) rfl ?_
              refine k_aload X1135 at_354 rfl rfl (pc' := 356) rfl ?_
              refine k_aload X1135 at_356 rfl rfl (pc' := 358) rfl ?_
              refine k_iload X1135 at_358 rfl (pc' := 360) rfl ?_
              refine k_iload X1135 at_360 rfl (pc' := 362) rfl ?_
              refine k_callSVF X1135 (y := (⟨"com/example/colophon/colophon/OpenIdsEndElementPinLaw", "state", "(Lcom/example/colophon/colophon/OpenIds;ILjava/lang/String;Ljava/lang/String;II)Z"⟩ : MethodName)) at_362 (w_138 hw) (w_139 hw) (w_2 hw) (w_140 hw) (by decide) (argsL := [(.ref b1078), (.int (0 : Int32)), (.ref r_1071), .null, (.int l1), (.int l2)]) (rest := []) (own_stt0n l Z a0 hw G n0 h1135 X1135.old b1078 r_1071 l1 l2 sb_1080 q1135_0 q1135_5 q1135_4 q1135_1 q1135_6 q1135_9) rfl pd_27 rfl rfl (by decide) (W := 0) (Nat.le_of_eq rfl) (by decide) (by decide) (by decide) all0 (pc' := 365) rfl ?_
              rintro _ T1136 h1136 L1136 X1136 K1136 ⟨rfl, -⟩
              have sz_h1136 := K1136.1
              have K0_h1136 : Keep h0 h1136 [] := K0_h1135.trans K1136 all0
              exact k_retHN X1136 (w := (1 : Int32)) at_365 (t := .boolean) rfl (by simp) rfl K0_h1136 (fun v' C' => ⟨_, rfl, rfl, trivial⟩) (by decide) (by decide)
            · refine k_iload X1117 at_297 rfl (pc' := 299) rfl ?_
              refine k_ifYes X1117 at_299 ((if0 _ _).trans (feq hc1119).2) (pc' := 306) (by decide) (by decide) ?_
              refine k_iconst X1117 at_306 (w := (0 : Int32)) rfl (pc' := 307) rfl ?_
              refine k_goto X1117 at_307 (pc' := 325) (by decide) (by decide) ?_
              refine k_istore X1117 at_325 (Ls' := #[.val (.int p0), .val (.int p1), .val (.int p2), .val (.int p3), .val (.int p4), .val (.int p5), .val (.int (0 : Int32)), .val (.int l1), .val (.int l2), .val (.int pbv), .val (.ref r_1071), .val .null, .val (.int d1), .val (.int d2), .val (.int (0 : Int32)), .val (.int j), .val (.int d2), .val (.int (d1 + j)), .val (.ref b1078), .val (.int (1 : Int32)), .val (.int (0 : Int32)), .val (.int (1 : Int32)), .val (.int (0 : Int32)), .unset]) rfl (pc' := 327) rfl ?_
              refine k_iload X1117 at_327 rfl (pc' := 329) rfl ?_
              refine k_ifYes X1117 at_329 (by decide) (pc' := 339) (by decide) (by decide) ?_
              refine k_iload X1117 at_339 rfl (pc' := 341) rfl ?_
              refine k_istore X1117 at_341 (Ls' := #[.val (.int p0), .val (.int p1), .val (.int p2), .val (.int p3), .val (.int p4), .val (.int p5), .val (.int (0 : Int32)), .val (.int l1), .val (.int l2), .val (.int pbv), .val (.ref r_1071), .val .null, .val (.int d1), .val (.int d2), .val (.int (0 : Int32)), .val (.int j), .val (.int d2), .val (.int (d1 + j)), .val (.ref b1078), .val (.int (1 : Int32)), .val (.int (0 : Int32)), .val (.int (1 : Int32)), .val (.int (0 : Int32)), .val (.int (1 : Int32))]) rfl (pc' := 343) rfl ?_
              refine k_aload X1117 at_343 rfl rfl (pc' := 345) rfl ?_
              refine k_iload X1117 at_345 rfl (pc' := 347) rfl ?_
              have c1138 := ((fj1106_8.keep K1107 nin0).keep K1117 nin0)
              have c1139 := ((fj1106_6.keep K1107 nin0).keep K1117 nin0)
              have c1140 := ((fj1106_16.keep K1107 nin0).keep K1117 nin0)
              have c1141 := (c1108.keep K1117)
              refine k_callVNF X1117 (y := (⟨"com/example/colophon/colophon/OpenIds", "endElement", "(I)V"⟩ : MethodName)) at_347 (w_133 hw) (w_134 hw) (w_136 hw) (w_135 hw) (w_38 hw) (w_137 hw) (by decide) (notFace_of_selects (args := #[]) (mvT X1117.hZ (w_136 hw))) c1141 (argsL := [(.int (d1 + j))]) (rest := []) (own_enNo1 l Z a0 hw G n0 h1117 X1117.old b1078 dp_1082 kd_1085 (d1 + j) d1 (0 : Int32) (own_addne hc1119) c1138 c1139 c1140) rfl pd_9 rfl rfl (by decide) (W := 0) (Nat.le_of_eq rfl) (by decide) (by decide) (by decide) all0 (pc' := 350) rfl ?_
              rintro T1142 h1142 L1142 X1142 K1142 -
              have sz_h1142 := K1142.1
              have K0_h1142 : Keep h0 h1142 [] := K0_h1117.trans K1142 all0
              refine k_aload X1142 at_350 rfl rfl (pc' := 352) rfl ?_
              refine k_iload X1142 at_352 rfl (pc' := 354) rfl ?_
              refine k_aload X1142 at_354 rfl rfl (pc' := 356) rfl ?_
              refine k_aload X1142 at_356 rfl rfl (pc' := 358) rfl ?_
              refine k_iload X1142 at_358 rfl (pc' := 360) rfl ?_
              refine k_iload X1142 at_360 rfl (pc' := 362) rfl ?_
              have c1143 := (c1141.keep K1142)
              have c1144 := ((c1109.keep K1117 nin0).keep K1142 nin0)
              have c1145 := ((c1110.keep K1117 nin0).keep K1142 nin0)
              have c1146 := ((c1111.keep K1117).keep K1142)
              have c1147 := ((c1112.keep K1117 nin0).keep K1142 nin0)
              have c1148 := ((c1113.keep K1117).keep K1142)
              have c1149 := ((c1114.keep K1117 nin0).keep K1142 nin0)
              have c1150 := ((c1115.keep K1117 nin0).keep K1142 nin0)
              have c1151 := ((c1116.keep K1117 nin0).keep K1142 nin0)
              refine k_callSVF X1142 (y := (⟨"com/example/colophon/colophon/OpenIdsEndElementPinLaw", "state", "(Lcom/example/colophon/colophon/OpenIds;ILjava/lang/String;Ljava/lang/String;II)Z"⟩ : MethodName)) at_362 (w_138 hw) (w_139 hw) (w_2 hw) (w_140 hw) (by decide) (argsL := [(.ref b1078), (.int (1 : Int32)), (.ref r_1071), .null, (.int l1), (.int l2)]) (rest := []) (own_stt1n l Z a0 hw G n0 h1142 X1142.old b1078 r_1071 l1 l2 sb_1080 r_1071 (Int32.ofNat (0 + cs_1074.length)) cs_1074 t_1072 kt_1073 t_1072 kt_1073 (m1.1) (by omega) (en1.trans m1.2.2.symm) c1143 c1144 c1145 c1146 c1147 c1148 c1149 c1150 c1151 c1148 c1149 c1150 c1151) rfl pd_27 rfl rfl (by decide) (W := 0) (Nat.le_of_eq rfl) (by decide) (by decide) (by decide) all0 (pc' := 365) rfl ?_
              rintro _ T1152 h1152 L1152 X1152 K1152 ⟨rfl, -⟩
              have sz_h1152 := K1152.1
              have K0_h1152 : Keep h0 h1152 [] := K0_h1142.trans K1152 all0
              exact k_retHN X1152 (w := (1 : Int32)) at_365 (t := .boolean) rfl (by simp) rfl K0_h1152 (fun v' C' => ⟨_, rfl, rfl, trivial⟩) (by decide) (by decide)
          · subst he1 he2
            refine k_iload Xj1106 at_232 rfl (pc' := 234) rfl ?_
            refine k_ifYes Xj1106 at_234 (by decide) (pc' := 246) (by decide) (by decide) ?_
            refine k_iconst Xj1106 at_246 (w := (0 : Int32)) rfl (pc' := 247) rfl ?_
            refine k_istore Xj1106 at_247 (Ls' := #[.val (.int p0), .val (.int p1), .val (.int p2), .val (.int p3), .val (.int p4), .val (.int p5), .val (.int (0 : Int32)), .val (.int l1), .val (.int l2), .val (.int pbv), .val (.ref r_1071), .val .null, .val (.int d1), .val (.int d2), .val (.int k), .val (.int j), .val (.int (d2 + k)), .val (.int (d2 + j)), .val (.ref b1078), .val (.int (1 : Int32)), .val (.int (0 : Int32)), .unset, .unset, .unset]) rfl (pc' := 249) rfl ?_
            refine k_iload Xj1106 at_249 rfl (pc' := 251) rfl ?_
            refine k_ifYes Xj1106 at_251 (by decide) (pc' := 261) (by decide) (by decide) ?_
            refine k_iload Xj1106 at_261 rfl (pc' := 263) rfl ?_
            refine k_istore Xj1106 at_263 (Ls' := #[.val (.int p0), .val (.int p1), .val (.int p2), .val (.int p3), .val (.int p4), .val (.int p5), .val (.int (0 : Int32)), .val (.int l1), .val (.int l2), .val (.int pbv), .val (.ref r_1071), .val .null, .val (.int d1), .val (.int d2), .val (.int k), .val (.int j), .val (.int (d2 + k)), .val (.int (d2 + j)), .val (.ref b1078), .val (.int (1 : Int32)), .val (.int (0 : Int32)), .val (.int (1 : Int32)), .unset, .unset]) rfl (pc' := 265) rfl ?_
            refine k_aload Xj1106 at_265 rfl rfl (pc' := 267) rfl ?_
            refine k_iload Xj1106 at_267 rfl (pc' := 269) rfl ?_
            refine k_callVNF Xj1106 (y := (⟨"com/example/colophon/colophon/OpenIds", "endElement", "(I)V"⟩ : MethodName)) at_269 (w_133 hw) (w_134 hw) (w_136 hw) (w_135 hw) (w_38 hw) (w_137 hw) (by decide) (notFace_of_selects (args := #[]) (mvT Xj1106.hZ (w_136 hw))) fj1106_4 (argsL := [(.int (d2 + k))]) (rest := []) (own_enNo1 l Z a0 hw G n0 hj1106 Xj1106.old b1078 dp_1082 kd_1085 (d2 + k) d1 (0 : Int32) (own_deep hd1 hd2 huk) fj1106_8 fj1106_6 fj1106_16) rfl pd_9 rfl rfl (by decide) (W := 0) (Nat.le_of_eq rfl) (by decide) (by decide) (by decide) all0 (pc' := 272) rfl ?_
            rintro T1154 h1154 L1154 X1154 K1154 -
            have sz_h1154 := K1154.1
            have K0_h1154 : Keep h0 h1154 [] := Kj1106.trans K1154 all0
            refine k_aload X1154 at_272 rfl rfl (pc' := 274) rfl ?_
            refine k_iload X1154 at_274 rfl (pc' := 276) rfl ?_
            refine k_aload X1154 at_276 rfl rfl (pc' := 278) rfl ?_
            refine k_aload X1154 at_278 rfl rfl (pc' := 280) rfl ?_
            refine k_iload X1154 at_280 rfl (pc' := 282) rfl ?_
            refine k_iload X1154 at_282 rfl (pc' := 284) rfl ?_
            have c1155 := (fj1106_4.keep K1154)
            have c1156 := (fj1106_9.keep K1154 nin0)
            have c1157 := (fj1106_5.keep K1154 nin0)
            have c1158 := (fj1106_10.keep K1154)
            have c1159 := (fj1106_13.keep K1154 nin0)
            have c1160 := (fj1106_0.keep K1154)
            have c1161 := (fj1106_1.keep K1154 nin0)
            have c1162 := (fj1106_2.keep K1154 nin0)
            have c1163 := (fj1106_3.keep K1154 nin0)
            refine k_callSVF X1154 (y := (⟨"com/example/colophon/colophon/OpenIdsEndElementPinLaw", "state", "(Lcom/example/colophon/colophon/OpenIds;ILjava/lang/String;Ljava/lang/String;II)Z"⟩ : MethodName)) at_284 (w_138 hw) (w_139 hw) (w_2 hw) (w_140 hw) (by decide) (argsL := [(.ref b1078), (.int (1 : Int32)), (.ref r_1071), .null, (.int l1), (.int l2)]) (rest := []) (own_stt1n l Z a0 hw G n0 h1154 X1154.old b1078 r_1071 l1 l2 sb_1080 r_1071 (Int32.ofNat (0 + cs_1074.length)) cs_1074 t_1072 kt_1073 t_1072 kt_1073 (m1.1) (by omega) (en1.trans m1.2.2.symm) c1155 c1156 c1157 c1158 c1159 c1160 c1161 c1162 c1163 c1160 c1161 c1162 c1163) rfl pd_27 rfl rfl (by decide) (W := 0) (Nat.le_of_eq rfl) (by decide) (by decide) (by decide) all0 (pc' := 287) rfl ?_
            rintro _ T1164 h1164 L1164 X1164 K1164 ⟨rfl, -⟩
            have sz_h1164 := K1164.1
            have K0_h1164 : Keep h0 h1164 [] := K0_h1154.trans K1164 all0
            refine k_ifYes X1164 at_287 (by decide) (pc' := 292) (by decide) (by decide) ?_
            refine k_iload X1164 at_292 rfl (pc' := 294) rfl ?_
            refine k_ifYes X1164 at_294 ((if0 _ _).trans (feq hk0).2) (pc' := 310) (by decide) (by decide) ?_
            by_cases hc1166 : j = (0 : Int32)
            · subst hc1166
              refine k_iload X1164 at_310 rfl (pc' := 312) rfl ?_
              refine k_ifYes X1164 at_312 (by decide) (pc' := 324) (by decide) (by decide) ?_
              refine k_iconst X1164 at_324 (w := (0 : Int32)) rfl (pc' := 325) rfl ?_
              refine k_istore X1164 at_325 (Ls' := #[.val (.int p0), .val (.int p1), .val (.int p2), .val (.int p3), .val (.int p4), .val (.int p5), .val (.int (0 : Int32)), .val (.int l1), .val (.int l2), .val (.int pbv), .val (.ref r_1071), .val .null, .val (.int d1), .val (.int d2), .val (.int k), .val (.int (0 : Int32)), .val (.int (d2 + k)), .val (.int (d2 + (0 : Int32))), .val (.ref b1078), .val (.int (1 : Int32)), .val (.int (0 : Int32)), .val (.int (1 : Int32)), .val (.int (0 : Int32)), .unset]) rfl (pc' := 327) rfl ?_
              refine k_iload X1164 at_327 rfl (pc' := 329) rfl ?_
              refine k_ifYes X1164 at_329 (by decide) (pc' := 339) (by decide) (by decide) ?_
              refine k_iload X1164 at_339 rfl (pc' := 341) rfl ?_
              refine k_istore X1164 at_341 (Ls' := #[.val (.int p0), .val (.int p1), .val (.int p2), .val (.int p3), .val (.int p4), .val (.int p5), .val (.int (0 : Int32)), .val (.int l1), .val (.int l2), .val (.int pbv), .val (.ref r_1071), .val .null, .val (.int d1), .val (.int d2), .val (.int k), .val (.int (0 : Int32)), .val (.int (d2 + k)), .val (.int (d2 + (0 : Int32))), .val (.ref b1078), .val (.int (1 : Int32)), .val (.int (0 : Int32)), .val (.int (1 : Int32)), .val (.int (0 : Int32)), .val (.int (1 : Int32))]) rfl (pc' := 343) rfl ?_
              refine k_aload X1164 at_343 rfl rfl (pc' := 345) rfl ?_
              refine k_iload X1164 at_345 rfl (pc' := 347) rfl ?_
              have c1167 := ((fj1106_8.keep K1154 nin0).keep K1164 nin0)
              have c1168 := ((fj1106_6.keep K1154 nin0).keep K1164 nin0)
              have c1169 := ((fj1106_16.keep K1154 nin0).keep K1164 nin0)
              have c1170 := (c1155.keep K1164)
              refine k_callVNF X1164 (y := (⟨"com/example/colophon/colophon/OpenIds", "endElement", "(I)V"⟩ : MethodName)) at_347 (w_133 hw) (w_134 hw) (w_136 hw) (w_135 hw) (w_38 hw) (w_137 hw) (by decide) (notFace_of_selects (args := #[]) (mvT X1164.hZ (w_136 hw))) c1170 (argsL := [(.int (d2 + (0 : Int32)))]) (rest := []) (own_enNo1 l Z a0 hw G n0 h1164 X1164.old b1078 dp_1082 kd_1085 (d2 + (0 : Int32)) d1 (0 : Int32) (own_deep hd1 hd2 huj) c1167 c1168 c1169) rfl pd_9 rfl rfl (by decide) (W := 0) (Nat.le_of_eq rfl) (by decide) (by decide) (by decide) all0 (pc' := 350) rfl ?_
              rintro T1171 h1171 L1171 X1171 K1171 -
              have sz_h1171 := K1171.1
              have K0_h1171 : Keep h0 h1171 [] := K0_h1164.trans K1171 all0
              refine k_aload X1171 at_350 rfl rfl (pc' := 352) rfl ?_
              refine k_iload X1171 at_352 rfl (pc' := 354) rfl ?_
              refine k_aload X1171 at_354 rfl rfl (pc' := 356) rfl ?_
              refine k_aload X1171 at_356 rfl rfl (pc' := 358) rfl ?_
              refine k_iload X1171 at_358 rfl (pc' := 360) rfl ?_
              refine k_iload X1171 at_360 rfl (pc' := 362) rfl ?_
              have c1172 := (c1170.keep K1171)
              have c1173 := ((c1156.keep K1164 nin0).keep K1171 nin0)
              have c1174 := ((c1157.keep K1164 nin0).keep K1171 nin0)
              have c1175 := ((c1158.keep K1164).keep K1171)
              have c1176 := ((c1159.keep K1164 nin0).keep K1171 nin0)
              have c1177 := ((c1160.keep K1164).keep K1171)
              have c1178 := ((c1161.keep K1164 nin0).keep K1171 nin0)
              have c1179 := ((c1162.keep K1164 nin0).keep K1171 nin0)
              have c1180 := ((c1163.keep K1164 nin0).keep K1171 nin0)
              refine k_callSVF X1171 (y := (⟨"com/example/colophon/colophon/OpenIdsEndElementPinLaw", "state", "(Lcom/example/colophon/colophon/OpenIds;ILjava/lang/String;Ljava/lang/String;II)Z"⟩ : MethodName)) at_362 (w_138 hw) (w_139 hw) (w_2 hw) (w_140 hw) (by decide) (argsL := [(.ref b1078), (.int (1 : Int32)), (.ref r_1071), .null, (.int l1), (.int l2)]) (rest := []) (own_stt1n l Z a0 hw G n0 h1171 X1171.old b1078 r_1071 l1 l2 sb_1080 r_1071 (Int32.ofNat (0 + cs_1074.length)) cs_1074 t_1072 kt_1073 t_1072 kt_1073 (m1.1) (by omega) (en1.trans m1.2.2.symm) c1172 c1173 c1174 c1175 c1176 c1177 c1178 c1179 c1180 c1177 c1178 c1179 c1180) rfl pd_27 rfl rfl (by decide) (W := 0) (Nat.le_of_eq rfl) (by decide) (by decide) (by decide) all0 (pc' := 365) rfl ?_
              rintro _ T1181 h1181 L1181 X1181 K1181 ⟨rfl, -⟩
              have sz_h1181 := K1181.1
              have K0_h1181 : Keep h0 h1181 [] := K0_h1171.trans K1181 all0
              exact k_retHN X1181 (w := (1 : Int32)) at_365 (t := .boolean) rfl (by simp) rfl K0_h1181 (fun v' C' => ⟨_, rfl, rfl, trivial⟩) (by decide) (by decide)
            · refine k_iload X1164 at_310 rfl (pc' := 312) rfl ?_
              refine k_ifYes X1164 at_312 (by decide) (pc' := 324) (by decide) (by decide) ?_
              refine k_iconst X1164 at_324 (w := (0 : Int32)) rfl (pc' := 325) rfl ?_
              refine k_istore X1164 at_325 (Ls' := #[.val (.int p0), .val (.int p1), .val (.int p2), .val (.int p3), .val (.int p4), .val (.int p5), .val (.int (0 : Int32)), .val (.int l1), .val (.int l2), .val (.int pbv), .val (.ref r_1071), .val .null, .val (.int d1), .val (.int d2), .val (.int k), .val (.int j), .val (.int (d2 + k)), .val (.int (d2 + j)), .val (.ref b1078), .val (.int (1 : Int32)), .val (.int (0 : Int32)), .val (.int (1 : Int32)), .val (.int (0 : Int32)), .unset]) rfl (pc' := 327) rfl ?_
              refine k_iload X1164 at_327 rfl (pc' := 329) rfl ?_
              refine k_ifYes X1164 at_329 (by decide) (pc' := 339) (by decide) (by decide) ?_
              refine k_iload X1164 at_339 rfl (pc' := 341) rfl ?_
              refine k_istore X1164 at_341 (Ls' := #[.val (.int p0), .val (.int p1), .val (.int p2), .val (.int p3), .val (.int p4), .val (.int p5), .val (.int (0 : Int32)), .val (.int l1), .val (.int l2), .val (.int pbv), .val (.ref r_1071), .val .null, .val (.int d1), .val (.int d2), .val (.int k), .val (.int j), .val (.int (d2 + k)), .val (.int (d2 + j)), .val (.ref b1078), .val (.int (1 : Int32)), .val (.int (0 : Int32)), .val (.int (1 : Int32)), .val (.int (0 : Int32)), .val (.int (1 : Int32))]) rfl (pc' := 343) rfl ?_
              refine k_aload X1164 at_343 rfl rfl (pc' := 345) rfl ?_
              refine k_iload X1164 at_345 rfl (pc' := 347) rfl ?_
              have c1183 := ((fj1106_8.keep K1154 nin0).keep K1164 nin0)
              have c1184 := ((fj1106_6.keep K1154 nin0).keep K1164 nin0)
              have c1185 := ((fj1106_16.keep K1154 nin0).keep K1164 nin0)
              have c1186 := (c1155.keep K1164)
              refine k_callVNF X1164 (y := (⟨"com/example/colophon/colophon/OpenIds", "endElement", "(I)V"⟩ : MethodName)) at_347 (w_133 hw) (w_134 hw) (w_136 hw) (w_135 hw) (w_38 hw) (w_137 hw) (by decide) (notFace_of_selects (args := #[]) (mvT X1164.hZ (w_136 hw))) c1186 (argsL := [(.int (d2 + j))]) (rest := []) (own_enNo1 l Z a0 hw G n0 h1164 X1164.old b1078 dp_1082 kd_1085 (d2 + j) d1 (0 : Int32) (own_deep hd1 hd2 huj) c1183 c1184 c1185) rfl pd_9 rfl rfl (by decide) (W := 0) (Nat.le_of_eq rfl) (by decide) (by decide) (by decide) all0 (pc' := 350) rfl ?_
              rintro T1187 h1187 L1187 X1187 K1187 -
              have sz_h1187 := K1187.1
              have K0_h1187 : Keep h0 h1187 [] := K0_h1164.trans K1187 all0
              refine k_aload X1187 at_350 rfl rfl (pc' := 352) rfl ?_
              refine k_iload X1187 at_352 rfl (pc' := 354) rfl ?_
              refine k_aload X1187 at_354 rfl rfl (pc' := 356) rfl ?_
              refine k_aload X1187 at_356 rfl rfl (pc' := 358) rfl ?_
              refine k_iload X1187 at_358 rfl (pc' := 360) rfl ?_
              refine k_iload X1187 at_360 rfl (pc' := 362) rfl ?_
              have c1188 := (c1186.keep K1187)
              have c1189 := ((c1156.keep K1164 nin0).keep K1187 nin0)
              have c1190 := ((c1157.keep K1164 nin0).keep K1187 nin0)
              have c1191 := ((c1158.keep K1164).keep K1187)
              have c1192 := ((c1159.keep K1164 nin0).keep K1187 nin0)
              have c1193 := ((c1160.keep K1164).keep K1187)
              have c1194 := ((c1161.keep K1164 nin0).keep K1187 nin0)
              have c1195 := ((c1162.keep K1164 nin0).keep K1187 nin0)
              have c1196 := ((c1163.keep K1164 nin0).keep K1187 nin0)
              refine k_callSVF X1187 (y := (⟨"com/example/colophon/colophon/OpenIdsEndElementPinLaw", "state", "(Lcom/example/colophon/colophon/OpenIds;ILjava/lang/String;Ljava/lang/String;II)Z"⟩ : MethodName)) at_362 (w_138 hw) (w_139 hw) (w_2 hw) (w_140 hw) (by decide) (argsL := [(.ref b1078), (.int (1 : Int32)), (.ref r_1071), .null, (.int l1), (.int l2)]) (rest := []) (own_stt1n l Z a0 hw G n0 h1187 X1187.old b1078 r_1071 l1 l2 sb_1080 r_1071 (Int32.ofNat (0 + cs_1074.length)) cs_1074 t_1072 kt_1073 t_1072 kt_1073 (m1.1) (by omega) (en1.trans m1.2.2.symm) c1188 c1189 c1190 c1191 c1192 c1193 c1194 c1195 c1196 c1193 c1194 c1195 c1196) rfl pd_27 rfl rfl (by decide) (W := 0) (Nat.le_of_eq rfl) (by decide) (by decide) (by decide) all0 (pc' := 365) rfl ?_
              rintro _ T1197 h1197 L1197 X1197 K1197 ⟨rfl, -⟩
              have sz_h1197 := K1197.1
              have K0_h1197 : Keep h0 h1197 [] := K0_h1187.trans K1197 all0
              exact k_retHN X1197 (w := (1 : Int32)) at_365 (t := .boolean) rfl (by simp) rfl K0_h1197 (fun v' C' => ⟨_, rfl, rfl, trivial⟩) (by decide) (by decide)
        refine k_iload X1105 at_186 rfl (pc' := 188) rfl ?_
        by_cases hc1199 : pbv = (0 : Int32)
        · refine k_ifYes X1105 at_188 ((if0 _ _).trans (teq hc1199).1) (pc' := 220) (by decide) (by decide) ?_
          refine k_iload X1105 at_220 rfl (pc' := 222) rfl ?_
          refine k_ifYes X1105 at_222 (by decide) (pc' := 229) (by decide) (by decide) ?_
          refine k_iconst X1105 at_229 (w := (1 : Int32)) rfl (pc' := 230) rfl ?_
          refine k_istore X1105 at_230 (Ls' := #[.val (.int p0), .val (.int p1), .val (.int p2), .val (.int p3), .val (.int p4), .val (.int p5), .val (.int (0 : Int32)), .val (.int l1), .val (.int l2), .val (.int pbv), .val (.ref r_1071), .val .null, .val (.int d1), .val (.int d2), .val (.int k), .val (.int j), .val (.int e1), .val (.int e2), .val (.ref b1078), .val (.int (1 : Int32)), .unset, .unset, .unset, .unset]) rfl (pc' := 232) rfl ?_
          have c1200 := ((c1089.keep K1100).keep K1105)
          have ne1201 : (r_1071 : Nat) ≠ sp_1083 := own_ne (by omega)
          have ne1202 : (r_1071 : Nat) ≠ dp_1082 := own_ne (by omega)
          have ne1203 : (r_1071 : Nat) ≠ bv_1081 := own_ne (by omega)
          have ne1204 : (r_1071 : Nat) ≠ sb_1080 := own_ne (by omega)
          have c1205 := ((c1091.keep K1100 (ninS ne1090 (ninS ne1204 (ninS ne1203 (ninS ne1202 (ninS ne1201 nin0)))))).keep K1105 nin0)
          have c1206 := ((c1092.keep K1100 (ninS ne1090 (ninS ne1204 (ninS ne1203 (ninS ne1202 (ninS ne1201 nin0)))))).keep K1105 nin0)
          have ne1207 : (t_1072 : Nat) ≠ sp_1083 := own_ne (by omega)
          have ne1208 : (t_1072 : Nat) ≠ dp_1082 := own_ne (by omega)
          have ne1209 : (t_1072 : Nat) ≠ bv_1081 := own_ne (by omega)
          have ne1210 : (t_1072 : Nat) ≠ sb_1080 := own_ne (by omega)
          have c1211 := ((c1094.keep K1100 (ninS ne1093 (ninS ne1210 (ninS ne1209 (ninS ne1208 (ninS ne1207 nin0)))))).keep K1105 nin0)
          have c1212 := (q1100_0.keep K1105)
          have c1213 := (q1100_1.keep K1105 nin0)
          have c1214 := (q1100_2.keep K1105 nin0)
          have c1215 := (q1100_3.keep K1105 nin0)
          have c1216 := (q1100_4.keep K1105 nin0)
          have c1217 := (q1100_5.keep K1105 nin0)
          have c1218 := (q1100_6.keep K1105)
          have c1219 := (q1100_7.keep K1105 nin0)
          have c1220 := (q1100_8.keep K1105 nin0)
          have c1221 := (q1100_9.keep K1105 nin0)
          have c1222 := (q1100_10.keep K1105 nin0)
          have c1223 := (q1100_11.keep K1105 nin0)
          have c1224 := (q1100_12.keep K1105 nin0)
          have c1225 := (q1100_13.keep K1105 nin0)
          have c1226 := (X1100.sf K1105 all0 (X1087.sf K1100 (allS ⟨c1099, ge1079⟩ (allS ⟨sn1087_14, ge1095⟩ (allS ⟨sn1087_15, ge1096⟩ (allS ⟨sn1087_16, ge1097⟩ (allS ⟨sn1087_17, ge1098⟩ all0))))) sn1087_15))
          exact j1106 _ _ _ _   (X1105.up (by decide) (by decide)) K0_h1105 c1200 c1205 c1206 c1211 c1212 c1213 c1214 c1215 c1216 c1217 c1218 c1219 c1220 c1221 c1222 c1223 c1224 c1225 c1226
        · refine k_ifNo X1105 at_188 ((if0 _ _).trans (feq hc1199).1) (pc' := 191) rfl ?_
          refine k_aload X1105 at_191 rfl rfl (pc' := 193) rfl ?_
          have c1227 := (q1100_5.keep K1105 nin0)
          have c1228 := (q1100_0.keep K1105)
          refine k_callVVF X1105 (y := (⟨"com/example/colophon/colophon/OpenIds", "innermost", "()Ljava/lang/String;"⟩ : MethodName)) at_193 (w_141 hw) (w_142 hw) (w_144 hw) (w_143 hw) (w_38 hw) (w_145 hw) (by decide) (notFace_of_selects (args := #[]) (mvT X1105.hZ (w_144 hw))) c1228 (argsL := []) (rest := []) (own_inR l Z a0 hw G n0 h1105 X1105.old b1078 r_1071 c1227) rfl pd_25 rfl rfl (by decide) (W := 0) (Nat.le_of_eq rfl) (by decide) (by decide) (by decide) all0 (pc' := 196) rfl ?_
          rintro _ T1229 h1229 L1229 X1229 K1229 ⟨rfl, -⟩
          have sz_h1229 := K1229.1
          have K0_h1229 : Keep h0 h1229 [] := K0_h1105.trans K1229 all0
          refine k_astore X1229 at_196 rfl (Ls' := #[.val (.int p0), .val (.int p1), .val (.int p2), .val (.int p3), .val (.int p4), .val (.int p5), .val (.int (0 : Int32)), .val (.int l1), .val (.int l2), .val (.int pbv), .val (.ref r_1071), .val .null, .val (.int d1), .val (.int d2), .val (.int k), .val (.int j), .val (.int e1), .val (.int e2), .val (.ref b1078), .val (.ref r_1071), .unset, .unset, .unset, .unset]) rfl (pc' := 198) rfl ?_
          refine k_aload X1229 at_198 rfl rfl (pc' := 200) rfl ?_
          refine k_iload X1229 at_200 rfl (pc' := 202) rfl ?_
          refine k_ifYes X1229 at_202 (by decide) (pc' := 210) (by decide) (by decide) ?_
          refine k_aload X1229 at_210 rfl rfl (pc' := 212) rfl ?_
          have c1231 := (((c1089.keep K1100).keep K1105).keep K1229)
          have ne1232 : (r_1071 : Nat) ≠ sp_1083 := own_ne (by omega)
          have ne1233 : (r_1071 : Nat) ≠ dp_1082 := own_ne (by omega)
          have ne1234 : (r_1071 : Nat) ≠ bv_1081 := own_ne (by omega)
          have ne1235 : (r_1071 : Nat) ≠ sb_1080 := own_ne (by omega)
          have c1236 := (((c1091.keep K1100 (ninS ne1090 (ninS ne1235 (ninS ne1234 (ninS ne1233 (ninS ne1232 nin0)))))).keep K1105 nin0).keep K1229 nin0)
          have c1237 := (((c1092.keep K1100 (ninS ne1090 (ninS ne1235 (ninS ne1234 (ninS ne1233 (ninS ne1232 nin0)))))).keep K1105 nin0).keep K1229 nin0)
          have ne1238 : (t_1072 : Nat) ≠ sp_1083 := own_ne (by omega)
          have ne1239 : (t_1072 : Nat) ≠ dp_1082 := own_ne (by omega)
          have ne1240 : (t_1072 : Nat) ≠ bv_1081 := own_ne (by omega)
          have ne1241 : (t_1072 : Nat) ≠ sb_1080 := own_ne (by omega)
          have c1242 := (((c1094.keep K1100 (ninS ne1093 (ninS ne1241 (ninS ne1240 (ninS ne1239 (ninS ne1238 nin0)))))).keep K1105 nin0).keep K1229 nin0)
          refine k_callSVF X1229 (y := (⟨"com/example/colophon/colophon/OpenIdsEndElementPinLaw", "same", "(Ljava/lang/String;Ljava/lang/String;)Z"⟩ : MethodName)) at_212 (w_146 hw) (w_147 hw) (w_2 hw) (w_148 hw) (by decide) (argsL := [(.ref r_1071), (.ref r_1071)]) (rest := []) (own_same l Z a0 hw G n0 h1229 X1229.old r_1071 r_1071 cs_1074 t_1072 kt_1073 t_1072 kt_1073 (m1.1) (by omega) c1231 c1236 c1237 c1242 c1231 c1236 c1237 c1242) rfl pd_26 rfl rfl (by decide) (W := 0) (Nat.le_of_eq rfl) (by decide) (by decide) (by decide) all0 (pc' := 215) rfl ?_
          rintro _ T1243 h1243 L1243 X1243 K1243 ⟨rfl, -⟩
          have sz_h1243 := K1243.1
          have K0_h1243 : Keep h0 h1243 [] := K0_h1229.trans K1243 all0
          refine k_ifYes X1243 at_215 (by decide) (pc' := 220) (by decide) (by decide) ?_
          refine k_iload X1243 at_220 rfl (pc' := 222) rfl ?_
          refine k_ifYes X1243 at_222 (by decide) (pc' := 229) (by decide) (by decide) ?_
          refine k_iconst X1243 at_229 (w := (1 : Int32)) rfl (pc' := 230) rfl ?_
          refine k_istore X1243 at_230 (Ls' := #[.val (.int p0), .val (.int p1), .val (.int p2), .val (.int p3), .val (.int p4), .val (.int p5), .val (.int (0 : Int32)), .val (.int l1), .val (.int l2), .val (.int pbv), .val (.ref r_1071), .val .null, .val (.int d1), .val (.int d2), .val (.int k), .val (.int j), .val (.int e1), .val (.int e2), .val (.ref b1078), .val (.int (1 : Int32)), .unset, .unset, .unset, .unset]) rfl (pc' := 232) rfl ?_
          have c1245 := (c1231.keep K1243)
          have c1246 := (c1236.keep K1243 nin0)
          have c1247 := (c1237.keep K1243 nin0)
          have c1248 := (c1242.keep K1243 nin0)
          have c1249 := ((c1228.keep K1229).keep K1243)
          have c1250 := (((q1100_1.keep K1105 nin0).keep K1229 nin0).keep K1243 nin0)
          have c1251 := (((q1100_2.keep K1105 nin0).keep K1229 nin0).keep K1243 nin0)
          have c1252 := (((q1100_3.keep K1105 nin0).keep K1229 nin0).keep K1243 nin0)
          have c1253 := (((q1100_4.keep K1105 nin0).keep K1229 nin0).keep K1243 nin0)
          have c1254 := ((c1227.keep K1229 nin0).keep K1243 nin0)
          have c1255 := (((q1100_6.keep K1105).keep K1229).keep K1243)
          have c1256 := (((q1100_7.keep K1105 nin0).keep K1229 nin0).keep K1243 nin0)
          have c1257 := (((q1100_8.keep K1105 nin0).keep K1229 nin0).keep K1243 nin0)
          have c1258 := (((q1100_9.keep K1105 nin0).keep K1229 nin0).keep K1243 nin0)
          have c1259 := (((q1100_10.keep K1105 nin0).keep K1229 nin0).keep K1243 nin0)
          have c1260 := (((q1100_11.keep K1105 nin0).keep K1229 nin0).keep K1243 nin0)
          have c1261 := (((q1100_12.keep K1105 nin0).keep K1229 nin0).keep K1243 nin0)
          have c1262 := (((q1100_13.keep K1105 nin0).keep K1229 nin0).keep K1243 nin0)
          have c1263 := (X1229.sf K1243 all0 (X1105.sf K1229 all0 (X1100.sf K1105 all0 (X1087.sf K1100 (allS ⟨c1099, ge1079⟩ (allS ⟨sn1087_14, ge1095⟩ (allS ⟨sn1087_15, ge1096⟩ (allS ⟨sn1087_16, ge1097⟩ (allS ⟨sn1087_17, ge1098⟩ all0))))) sn1087_15))))
          exact j1106 _ _ _ _   (X1243.up (by decide) (by decide)) K0_h1243 c1245 c1246 c1247 c1248 c1249 c1250 c1251 c1252 c1253 c1254 c1255 c1256 c1257 c1258 c1259 c1260 c1261 c1262 c1263
      by_cases hc1264 : (p2 &&& (1 : Int32)) = (0 : Int32)
      · refine k_ifNo X1075 at_98 ((if0 _ _).trans (teq hc1264).2) (pc' := 101) rfl ?_
        refine k_iconst X1075 at_101 (w := (0 : Int32)) rfl (pc' := 102) rfl ?_
        refine k_goto X1075 at_102 (pc' := 113) (by decide) (by decide) ?_
        refine k_istore X1075 at_113 (Ls' := #[.val (.int p0), .val (.int p1), .val (.int p2), .val (.int p3), .val (.int p4), .val (.int p5), .val (.int (0 : Int32)), .val (.int l1), .val (.int l2), .val (.int pbv), .val (.ref r_1071), .val .null, .val (.int d1), .val (.int d2), .val (.int (0 : Int32)), .unset, .unset, .unset, .unset, .unset, .unset, .unset, .unset, .unset]) rfl (pc' := 115) rfl ?_
        refine k_iloadN X1075 at_115 rfl (pc' := 116) rfl ?_
        refine k_iconst X1075 at_116 (w := (1 : Int32)) rfl (pc' := 117) rfl ?_
        refine k_iand X1075 at_117 (w := (p3 &&& (1 : Int32))) rfl (pc' := 118) rfl ?_
        by_cases hc1265 : (p3 &&& (1 : Int32)) = (0 : Int32)
        · refine k_ifNo X1075 at_118 ((if0 _ _).trans (teq hc1265).2) (pc' := 121) rfl ?_
          refine k_iconst X1075 at_121 (w := (0 : Int32)) rfl (pc' := 122) rfl ?_
          refine k_goto X1075 at_122 (pc' := 133) (by decide) (by decide) ?_
          refine k_istore X1075 at_133 (Ls' := #[.val (.int p0), .val (.int p1), .val (.int p2), .val (.int p3), .val (.int p4), .val (.int p5), .val (.int (0 : Int32)), .val (.int l1), .val (.int l2), .val (.int pbv), .val (.ref r_1071), .val .null, .val (.int d1), .val (.int d2), .val (.int (0 : Int32)), .val (.int (0 : Int32)), .unset, .unset, .unset, .unset, .unset, .unset, .unset, .unset]) rfl (pc' := 135) rfl ?_
          refine k_iload X1075 at_135 rfl (pc' := 137) rfl ?_
          refine k_iload X1075 at_137 rfl (pc' := 139) rfl ?_
          refine k_iadd X1075 at_139 (w := d2) (Int32.add_zero d2) (pc' := 140) rfl ?_
          refine k_istore X1075 at_140 (Ls' := #[.val (.int p0), .val (.int p1), .val (.int p2), .val (.int p3), .val (.int p4), .val (.int p5), .val (.int (0 : Int32)), .val (.int l1), .val (.int l2), .val (.int pbv), .val (.ref r_1071), .val .null, .val (.int d1), .val (.int d2), .val (.int (0 : Int32)), .val (.int (0 : Int32)), .val (.int d2), .unset, .unset, .unset, .unset, .unset, .unset, .unset]) rfl (pc' := 142) rfl ?_
          refine k_iload X1075 at_142 rfl (pc' := 144) rfl ?_
          refine k_ifNo X1075 at_144 (by decide) (pc' := 147) rfl ?_
          refine k_iload X1075 at_147 rfl (pc' := 149) rfl ?_
          refine k_goto X1075 at_149 (pc' := 154) (by decide) (by decide) ?_
          refine k_iload X1075 at_154 rfl (pc' := 156) rfl ?_
          refine k_iadd X1075 at_156 (w := (d1 + (0 : Int32))) rfl (pc' := 157) rfl ?_
          refine k_istore X1075 at_157 (Ls' := #[.val (.int p0), .val (.int p1), .val (.int p2), .val (.int p3), .val (.int p4), .val (.int p5), .val (.int (0 : Int32)), .val (.int l1), .val (.int l2), .val (.int pbv), .val (.ref r_1071), .val .null, .val (.int d1), .val (.int d2), .val (.int (0 : Int32)), .val (.int (0 : Int32)), .val (.int d2), .val (.int (d1 + (0 : Int32))), .unset, .unset, .unset, .unset, .unset, .unset]) rfl (pc' := 159) rfl ?_
          exact j1077 _ _ _ _ (0 : Int32) (0 : Int32) d2 (d1 + (0 : Int32)) own_up0 own_up0 (Or.inl ⟨rfl, rfl, rfl⟩) (X1075.up (by decide) (by decide)) K0_h1075 q1075_0 q1075_1 q1075_2 q1075_3
        · refine k_ifYes X1075 at_118 ((if0 _ _).trans (feq hc1265).2) (pc' := 125) (by decide) (by decide) ?_
          refine k_iconst X1075 at_125 (w := (1 : Int32)) rfl (pc' := 126) rfl ?_
          refine k_iloadN X1075 at_126 rfl (pc' := 127) rfl ?_
          refine k_iconst X1075 at_127 (w := (1 : Int32)) rfl (pc' := 128) rfl ?_
          refine k_iushr X1075 at_128 (w := ((p3.toUInt32 >>> ((1 : Int32) &&& 31).toUInt32).toInt32)) rfl (pc' := 129) rfl ?_
          refine k_ldcI X1075 at_129 (w_35 hw) (pc' := 131) rfl ?_
          refine k_iand X1075 at_131 (w := (((p3.toUInt32 >>> ((1 : Int32) &&& 31).toUInt32).toInt32) &&& (268435455 : Int32))) rfl (pc' := 132) rfl ?_
          refine k_iadd X1075 at_132 (w := ja) hja (pc' := 133) rfl ?_
          refine k_istore X1075 at_133 (Ls' := #[.val (.int p0), .val (.int p1), .val (.int p2), .val (.int p3), .val (.int p4), .val (.int p5), .val (.int (0 : Int32)), .val (.int l1), .val (.int l2), .val (.int pbv), .val (.ref r_1071), .val .null, .val (.int d1), .val (.int d2), .val (.int (0 : Int32)), .val (.int ja), .unset, .unset, .unset, .unset, .unset, .unset, .unset, .unset]) rfl (pc' := 135) rfl ?_
          refine k_iload X1075 at_135 rfl (pc' := 137) rfl ?_
          refine k_iload X1075 at_137 rfl (pc' := 139) rfl ?_
          refine k_iadd X1075 at_139 (w := d2) (Int32.add_zero d2) (pc' := 140) rfl ?_
          refine k_istore X1075 at_140 (Ls' := #[.val (.int p0), .val (.int p1), .val (.int p2), .val (.int p3), .val (.int p4), .val (.int p5), .val (.int (0 : Int32)), .val (.int l1), .val (.int l2), .val (.int pbv), .val (.ref r_1071), .val .null, .val (.int d1), .val (.int d2), .val (.int (0 : Int32)), .val (.int ja), .val (.int d2), .unset, .unset, .unset, .unset, .unset, .unset, .unset]) rfl (pc' := 142) rfl ?_
          refine k_iload X1075 at_142 rfl (pc' := 144) rfl ?_
          refine k_ifNo X1075 at_144 (by decide) (pc' := 147) rfl ?_
          refine k_iload X1075 at_147 rfl (pc' := 149) rfl ?_
          refine k_goto X1075 at_149 (pc' := 154) (by decide) (by decide) ?_
          refine k_iload X1075 at_154 rfl (pc' := 156) rfl ?_
          refine k_iadd X1075 at_156 (w := (d1 + ja)) rfl (pc' := 157) rfl ?_
          refine k_istore X1075 at_157 (Ls' := #[.val (.int p0), .val (.int p1), .val (.int p2), .val (.int p3), .val (.int p4), .val (.int p5), .val (.int (0 : Int32)), .val (.int l1), .val (.int l2), .val (.int pbv), .val (.ref r_1071), .val .null, .val (.int d1), .val (.int d2), .val (.int (0 : Int32)), .val (.int ja), .val (.int d2), .val (.int (d1 + ja)), .unset, .unset, .unset, .unset, .unset, .unset]) rfl (pc' := 159) rfl ?_
          exact j1077 _ _ _ _ (0 : Int32) ja d2 (d1 + ja) own_up0 uja.1 (Or.inl ⟨rfl, rfl, rfl⟩) (X1075.up (by decide) (by decide)) K0_h1075 q1075_0 q1075_1 q1075_2 q1075_3
      · refine k_ifYes X1075 at_98 ((if0 _ _).trans (feq hc1264).2) (pc' := 105) (by decide) (by decide) ?_
        refine k_iconst X1075 at_105 (w := (1 : Int32)) rfl (pc' := 106) rfl ?_
        refine k_iloadN X1075 at_106 rfl (pc' := 107) rfl ?_
        refine k_iconst X1075 at_107 (w := (1 : Int32)) rfl (pc' := 108) rfl ?_
        refine k_iushr X1075 at_108 (w := ((p2.toUInt32 >>> ((1 : Int32) &&& 31).toUInt32).toInt32)) rfl (pc' := 109) rfl ?_
        refine k_ldcI X1075 at_109 (w_35 hw) (pc' := 111) rfl ?_
        refine k_iand X1075 at_111 (w := (((p2.toUInt32 >>> ((1 : Int32) &&& 31).toUInt32).toInt32) &&& (268435455 : Int32))) rfl (pc' := 112) rfl ?_
        refine k_iadd X1075 at_112 (w := ka) hka (pc' := 113) rfl ?_
        refine k_istore X1075 at_113 (Ls' := #[.val (.int p0), .val (.int p1), .val (.int p2), .val (.int p3), .val (.int p4), .val (.int p5), .val (.int (0 : Int32)), .val (.int l1), .val (.int l2), .val (.int pbv), .val (.ref r_1071), .val .null, .val (.int d1), .val (.int d2), .val (.int ka), .unset, .unset, .unset, .unset, .unset, .unset, .unset, .unset, .unset]) rfl (pc' := 115) rfl ?_
        refine k_iloadN X1075 at_115 rfl (pc' := 116) rfl ?_
        refine k_iconst X1075 at_116 (w := (1 : Int32)) rfl (pc' := 117) rfl ?_
        refine k_iand X1075 at_117 (w := (p3 &&& (1 : Int32))) rfl (pc' := 118) rfl ?_
        by_cases hc1266 : (p3 &&& (1 : Int32)) = (0 : Int32)
        · refine k_ifNo X1075 at_118 ((if0 _ _).trans (teq hc1266).2) (pc' := 121) rfl ?_
          refine k_iconst X1075 at_121 (w := (0 : Int32)) rfl (pc' := 122) rfl ?_
          refine k_goto X1075 at_122 (pc' := 133) (by decide) (by decide) ?_
          refine k_istore X1075 at_133 (Ls' := #[.val (.int p0), .val (.int p1), .val (.int p2), .val (.int p3), .val (.int p4), .val (.int p5), .val (.int (0 : Int32)), .val (.int l1), .val (.int l2), .val (.int pbv), .val (.ref r_1071), .val .null, .val (.int d1), .val (.int d2), .val (.int ka), .val (.int (0 : Int32)), .unset, .unset, .unset, .unset, .unset, .unset, .unset, .unset]) rfl (pc' := 135) rfl ?_
          refine k_iload X1075 at_135 rfl (pc' := 137) rfl ?_
          refine k_iload X1075 at_137 rfl (pc' := 139) rfl ?_
          refine k_iadd X1075 at_139 (w := (d2 + ka)) rfl (pc' := 140) rfl ?_
          refine k_istore X1075 at_140 (Ls' := #[.val (.int p0), .val (.int p1), .val (.int p2), .val (.int p3), .val (.int p4), .val (.int p5), .val (.int (0 : Int32)), .val (.int l1), .val (.int l2), .val (.int pbv), .val (.ref r_1071), .val .null, .val (.int d1), .val (.int d2), .val (.int ka), .val (.int (0 : Int32)), .val (.int (d2 + ka)), .unset, .unset, .unset, .unset, .unset, .unset, .unset]) rfl (pc' := 142) rfl ?_
          refine k_iload X1075 at_142 rfl (pc' := 144) rfl ?_
          refine k_ifYes X1075 at_144 ((if0 _ _).trans (feq uka.2).2) (pc' := 152) (by decide) (by decide) ?_
          refine k_iload X1075 at_152 rfl (pc' := 154) rfl ?_
          refine k_iload X1075 at_154 rfl (pc' := 156) rfl ?_
          refine k_iadd X1075 at_156 (w := (d2 + (0 : Int32))) rfl (pc' := 157) rfl ?_
          refine k_istore X1075 at_157 (Ls' := #[.val (.int p0), .val (.int p1), .val (.int p2), .val (.int p3), .val (.int p4), .val (.int p5), .val (.int (0 : Int32)), .val (.int l1), .val (.int l2), .val (.int pbv), .val (.ref r_1071), .val .null, .val (.int d1), .val (.int d2), .val (.int ka), .val (.int (0 : Int32)), .val (.int (d2 + ka)), .val (.int (d2 + (0 : Int32))), .unset, .unset, .unset, .unset, .unset, .unset]) rfl (pc' := 159) rfl ?_
          exact j1077 _ _ _ _ ka (0 : Int32) (d2 + ka) (d2 + (0 : Int32)) uka.1 own_up0 (Or.inr ⟨uka.2, rfl, rfl⟩) (X1075.up (by decide) (by decide)) K0_h1075 q1075_0 q1075_1 q1075_2 q1075_3
        · refine k_ifYes X1075 at_118 ((if0 _ _).trans (feq hc1266).2) (pc' := 125) (by decide) (by decide) ?_
          refine k_iconst X1075 at_125 (w := (1 : Int32)) rfl (pc' := 126) rfl ?_
          refine k_iloadN X1075 at_126 rfl (pc' := 127) rfl ?_
          refine k_iconst X1075 at_127 (w := (1 : Int32)) rfl (pc' := 128) rfl ?_
          refine k_iushr X1075 at_128 (w := ((p3.toUInt32 >>> ((1 : Int32) &&& 31).toUInt32).toInt32)) rfl (pc' := 129) rfl ?_
          refine k_ldcI X1075 at_129 (w_35 hw) (pc' := 131) rfl ?_
          refine k_iand X1075 at_131 (w := (((p3.toUInt32 >>> ((1 : Int32) &&& 31).toUInt32).toInt32) &&& (268435455 : Int32))) rfl (pc' := 132) rfl ?_
          refine k_iadd X1075 at_132 (w := ja) hja (pc' := 133) rfl ?_
          refine k_istore X1075 at_133 (Ls' := #[.val (.int p0), .val (.int p1), .val (.int p2), .val (.int p3), .val (.int p4), .val (.int p5), .val (.int (0 : Int32)), .val (.int l1), .val (.int l2), .val (.int pbv), .val (.ref r_1071), .val .null, .val (.int d1), .val (.int d2), .val (.int ka), .val (.int ja), .unset, .unset, .unset, .unset, .unset, .unset, .unset, .unset]) rfl (pc' := 135) rfl ?_
          refine k_iload X1075 at_135 rfl (pc' := 137) rfl ?_
          refine k_iload X1075 at_137 rfl (pc' := 139) rfl ?_
          refine k_iadd X1075 at_139 (w := (d2 + ka)) rfl (pc' := 140) rfl ?_
          refine k_istore X1075 at_140 (Ls' := #[.val (.int p0), .val (.int p1), .val (.int p2), .val (.int p3), .val (.int p4), .val (.int p5), .val (.int (0 : Int32)), .val (.int l1), .val (.int l2), .val (.int pbv), .val (.ref r_1071), .val .null, .val (.int d1), .val (.int d2), .val (.int ka), .val (.int ja), .val (.int (d2 + ka)), .unset, .unset, .unset, .unset, .unset, .unset, .unset]) rfl (pc' := 142) rfl ?_
          refine k_iload X1075 at_142 rfl (pc' := 144) rfl ?_
          refine k_ifYes X1075 at_144 ((if0 _ _).trans (feq uka.2).2) (pc' := 152) (by decide) (by decide) ?_
          refine k_iload X1075 at_152 rfl (pc' := 154) rfl ?_
          refine k_iload X1075 at_154 rfl (pc' := 156) rfl ?_
          refine k_iadd X1075 at_156 (w := (d2 + ja)) rfl (pc' := 157) rfl ?_
          refine k_istore X1075 at_157 (Ls' := #[.val (.int p0), .val (.int p1), .val (.int p2), .val (.int p3), .val (.int p4), .val (.int p5), .val (.int (0 : Int32)), .val (.int l1), .val (.int l2), .val (.int pbv), .val (.ref r_1071), .val .null, .val (.int d1), .val (.int d2), .val (.int ka), .val (.int ja), .val (.int (d2 + ka)), .val (.int (d2 + ja)), .unset, .unset, .unset, .unset, .unset, .unset]) rfl (pc' := 159) rfl ?_
          exact j1077 _ _ _ _ ka ja (d2 + ka) (d2 + ja) uka.1 uja.1 (Or.inr ⟨uka.2, rfl, rfl⟩) (X1075.up (by decide) (by decide)) K0_h1075 q1075_0 q1075_1 q1075_2 q1075_3
    by_cases hc1267 : (((p5.toUInt32 >>> ((5 : Int32) &&& 31).toUInt32).toInt32) &&& (1 : Int32)) = (0 : Int32)
    · refine k_ifYes X0 at_36 ((if0 _ _).trans (teq hc1267).1) (pc' := 43) (by decide) (by decide) ?_
      refine k_iconst X0 at_43 (w := (0 : Int32)) rfl (pc' := 44) rfl ?_
      refine k_istore X0 at_44 (Ls' := #[.val (.int p0), .val (.int p1), .val (.int p2), .val (.int p3), .val (.int p4), .val (.int p5), .val (.int (0 : Int32)), .val (.int l1), .val (.int l2), .val (.int (0 : Int32)), .unset, .unset, .unset, .unset, .unset, .unset, .unset, .unset, .unset, .unset, .unset, .unset, .unset, .unset]) rfl (pc' := 46) rfl ?_
      exact j1070 _ _ _ _ (0 : Int32)  (X0.up (by decide) (by decide)) K0_h0 
    · refine k_ifNo X0 at_36 ((if0 _ _).trans (feq hc1267).1) (pc' := 39) rfl ?_
      refine k_iconst X0 at_39 (w := (1 : Int32)) rfl (pc' := 40) rfl ?_
      refine k_goto X0 at_40 (pc' := 44) (by decide) (by decide) ?_
      refine k_istore X0 at_44 (Ls' := #[.val (.int p0), .val (.int p1), .val (.int p2), .val (.int p3), .val (.int p4), .val (.int p5), .val (.int (0 : Int32)), .val (.int l1), .val (.int l2), .val (.int (1 : Int32)), .unset, .unset, .unset, .unset, .unset, .unset, .unset, .unset, .unset, .unset, .unset, .unset, .unset, .unset]) rfl (pc' := 46) rfl ?_
      exact j1070 _ _ _ _ (1 : Int32)  (X0.up (by decide) (by decide)) K0_h0 
set_option maxRecDepth 65536 in
set_option maxHeartbeats 40000000 in
theorem comes_1 {Post : Tables → Env → Array Value → State → Outcome → State → Prop} (hpost : ∀ tb e args s v u, (limb_1_1.after args s (.returned v) u = true ∧ limb_1_2.after args s (.returned v) u = true ∧ True) → ReturnedEndW s (.returned v) u (Jvm.fieldLocs frame_1_writes args s ++ Jvm.arrayLocs frame_1_arrays args s ++ Jvm.staticLocs frame_1_statics s) 40 2304 → Post tb e args s (.returned v) u) :
    ArmFor flags0 classFile x code maxLocals ret World_1 tables_1 room_1 Calls_1 rest_1 Pre_1 Post := by
  intro l hfl _ _ p e ha hc hk s m args below hf hA hF happ hP
  obtain ⟨hcalls, hrest, hpre⟩ := hP
  obtain ⟨-, -, -, hnamed, -, -, -, hat⟩ := (Spec.applies_iff hf).mp happ
  obtain ⟨hg, hn⟩ := and_e (Cond.before_iff.mp (show (Jvm.Cond.and given_1 narrow_1).before args s = true from hpre))
  obtain ⟨hcnt, g0⟩ := and_e hg
  obtain ⟨j0, g1⟩ := and_e g0
  obtain ⟨j1, g2⟩ := and_e g1
  obtain ⟨j2, g3⟩ := and_e g2
  obtain ⟨j3, g4⟩ := and_e g3
  obtain ⟨j4, g5⟩ := and_e g4
  obtain ⟨w0, w1, w2, w3, w4, w5, rfl⟩ : ∃ w0 w1 w2 w3 w4 w5 : Value, args = #[w0, w1, w2, w3, w4, w5] := by
    have hs : args.size = 6 := by simpa [Cond.value, given_1] using hcnt
    obtain ⟨L⟩ := args
    match L, hs with
    | [w0, w1, w2, w3, w4, w5], _ => exact ⟨w0, w1, w2, w3, w4, w5, rfl⟩
  have hw := fun d (hd : d ∈ tables_1) => atoms_spec (ws := Jvm.Cond.code x code maxLocals ret :: tables_1) hat d (List.mem_cons_of_mem _ hd)
  obtain ⟨hsets, hown0⟩ := atoms_of _ (rest_1_c_eq ▸ (show rest_1_c.before _ s = true from hrest))
  have hfit : Fit s := fun {y c} hc i hi => by
    obtain ⟨ha, rfl⟩ := Array.getElem?_eq_some_iff.mp hc
    have q := List.all_eq_true.mp ((Array.all_eq_true_iff_forall_mem.mp hF) _ (Array.getElem_mem ha)) i (List.mem_range.mpr hi)
    simpa [Array.getElem?_eq_getElem hi] using q
  obtain ⟨i0, e0⟩ := is_v j0
  obtain rfl : w0 = (.int i0) := Option.some.inj e0
  obtain ⟨i1, e1⟩ := is_v j1
  obtain rfl : w1 = (.int i1) := Option.some.inj e1
  obtain ⟨i2, e2⟩ := is_v j2
  obtain rfl : w2 = (.int i2) := Option.some.inj e2
  obtain ⟨i3, e3⟩ := is_v j3
  obtain rfl : w3 = (.int i3) := Option.some.inj e3
  obtain ⟨i4, e4⟩ := is_v j4
  obtain rfl : w4 = (.int i4) := Option.some.inj e4
  obtain ⟨i5, e5⟩ := is_v g5
  obtain rfl : w5 = (.int i5) := Option.some.inj e5
  obtain ⟨zc, ezc⟩ := is_v (Cond.before_iff.mp (hsets _ (List.mem_of_getElem? (i := 1) rfl)))
  have nzc := not_v (Cond.before_iff.mp (hsets _ (List.mem_of_getElem? (i := 2) rfl)))
  obtain ⟨fm, efm, rfm⟩ := isR_v (Cond.before_iff.mp (hsets _ (List.mem_of_getElem? (i := 8) rfl)))
  have G : Gl s zc fm := ⟨Sta.start ezc (Or.inl (hsets _ (List.mem_of_getElem? (i := 0) rfl))), gotF (Cond.eq_ints ezc (Term.int_eval (0))) nzc, Sta.start efm (Or.inl (hsets _ (List.mem_of_getElem? (i := 7) rfl))), rfm⟩
  have hh := hcalls.1
  have hcw : Jvm.Lit.compactW.before #[(.int i0), (.int i1), (.int i2), (.int i3), (.int i4), (.int i5)] s = true := hsets _ (List.mem_of_getElem? (i := 2) rfl)
  have hCH : CHv s EL s.vm s.heap := CHv.start (hEL hw) (fun q hq => hh q (own_ELsub q hq)) hcw (w_23 hw) (w_5 hw)
  obtain ⟨n, o, r1, r2, r3, _, L, rfl, ⟨⟨-, w, rfl, rfl, -⟩, N⟩, -, hq⟩ := own_law l s _ hw G s.heap.size s.heap (Old.start s) i0 i1 i2 i3 i4 i5 p e ha hc hk s m _ below hf ((Spec.applies_iff_loose hf).mp happ).1 ⟨rfl, State.Warmed39.refl s, rfl, hCH, fun _ q => nomatch q⟩ trivial
  exact ⟨n, _, r1, r2, r3, hpost _ _ _ _ _ _ ⟨Cond.after_iff.mpr rfl, Cond.after_iff.mpr (eq_i res_at (Term.int_eval (1)) rfl), trivial⟩ ⟨hq.1, hq.2.1, hq.2.2.1, (hq.2.2.2.sift fun y hy => Or.inr (N y hy)).mono (by decide) (by decide)⟩⟩
theorem main_1_1 : Claimed_1_1 := comes_1 fun _ _ _ _ _ _ h hF => ⟨h.1, hF⟩
theorem main_1_2 : Claimed_1_2 := comes_1 fun _ _ _ _ _ _ h hF => ⟨h.2.1, hF⟩
end OwnProof
end Jvm.Pilot.@@N@@
namespace Jvm.Pilot.@@N@@
open Jvm Jvm.ClassFile Sem Op Lib Jvm.Free Jvm.Stand Jvm.Pilot.@@N@@.Jvm.D
/-! MADE BY PROGRAM (witnessworld.py) out of the Statement's table words and the real class files: 26 classes; the members and pool entries that the words name. The judged class is class 1, her method 1. -/
namespace start1
open Jvm.ClassFile
def u (s : String) : CpInfo := .utf8 (stringToUtf16 s)
/-- a pool by its gaps: so many unusable entries, then the entry; so many at the end -/
def gap : Nat → List CpInfo → List CpInfo
  | 0, r => r
  | n + 1, r => .unusable :: gap n r
def poolList (es : List (Nat × CpInfo)) (last : Nat) : List CpInfo := es.foldr (fun e r => gap e.1 (e.2 :: r)) (gap last [])
def pool (es : List (Nat × CpInfo)) (last : Nat) : Array CpInfo := ⟨poolList es last⟩
def fileOf (pool : Array CpInfo) (this : Nat) (attrs : Array Attribute := #[]) (ms : Array MethodInfo := #[]) (fl : Nat := 33) (sup : Nat := 0) (ifs : Array Nat := #[]) (fds : Array FieldInfo := #[]) : ClassFile where
  minorVersion := 0
  majorVersion := 65
  constantPool := pool
  accessFlags := fl
  thisClass := this
  superClass := sup
  interfaces := ifs
  fields := fds
  methods := ms
  attributes := attrs
def plain (name : String) (sup : Option ClassId) : Class where
  name := name
  kind := .ordinary
  loader := none
  accessFlags := 33
  super := sup
  interfaces := #[]
  cf := none
  fields := #[]
  methods := #[]
  instanceTypes := #[]
  staticTypes := #[]
  resolved := #[]
  callSites := []
  init := .initialized
  statics := none
  mirror := none

def pool0 : Array CpInfo := pool [(5, u "<init>"), (0, u "()V"), (1, .class_ 10), (1, u "java/lang/Object")] 113

def k0c0 : Code := { maxStack := 0, maxLocals := 1, code := object_method_1_code, exceptionTable := #[], attributes := #[] }
def k0m0 : Method := { name := "<init>", desc := "()V", sig := { parameters := [], returnType := none }, accessFlags := 1, code := some k0c0 }
/-- java/lang/Object -/
def k0 : Class := { plain "java/lang/Object" none with
  accessFlags := 33
  interfaces := #[]
  cf := some (fileOf pool0 8 #[] #[{ accessFlags := 1, nameIndex := 5, descriptorIndex := 6, attributes := #[] }] 33 0 #[] #[])
  fields := #[]
  methods := #[k0m0]
  instanceTypes := #[]
  staticTypes := #[]
  resolved := Array.replicate 124 none
  statics := none }

def pool1 : Array CpInfo := pool [(2, .class_ 4), (0, .nameAndType 5 6), (0, u "java/lang/Object"), (0, u "<init>"), (0, u "()V"), (0, .methodref 8 9), (0, .class_ 10), (0, .nameAndType 11 12), (0, u "com/example/colophon/colophon/OpenIdsEndElementPinLaw"), (0, u "mk"), (0, u "(II)Ljava/lang/String;"), (0, .integer 1073741823), (0, .integer 268435455), (0, .class_ 16), (0, u "com/example/colophon/colophon/OpenIds"), (0, .methodref 15 3), (0, .methodref 15 19), (0, .nameAndType 20 21), (0, u "startElement"), (0, u "(ILjava/lang/String;)V"), (0, .methodref 15 23), (0, .nameAndType 24 25), (0, u "innermost"), (0, u "()Ljava/lang/String;"), (0, .methodref 8 27), (0, .nameAndType 28 29), (0, u "same"), (0, u "(Ljava/lang/String;Ljava/lang/String;)Z"), (0, .methodref 15 31), (0, .nameAndType 32 33), (0, u "endElement"), (0, u "(I)V"), (0, .methodref 8 35), (0, .nameAndType 36 37), (0, u "state"), (0, u "(Lcom/example/colophon/colophon/OpenIds;ILjava/lang/String;Ljava/lang/String;II)Z"), (0, .methodref 15 39), (0, .nameAndType 40 41), (0, u "length"), (0, u "()I"), (0, .methodref 43 44), (0, .class_ 45), (0, .nameAndType 46 47), (0, u "java/lang/String"), (0, u "equals"), (0, u "(Ljava/lang/Object;)Z"), (0, .methodref 43 49), (0, .nameAndType 5 50), (0, u "([C)V"), (2, u "law"), (0, u "(IIIIII)Z")] 3

def k1m0 : Method := { name := "<init>", desc := "()V", sig := { parameters := [], returnType := none }, accessFlags := 1, code := none }
def k1c1 : Code := { maxStack := 6, maxLocals := 24, code := code, exceptionTable := #[], attributes := #[] }
def k1m1 : Method := { name := "law", desc := "(IIIIII)Z", sig := { parameters := [.int, .int, .int, .int, .int, .int], returnType := some .boolean }, accessFlags := 9, code := some k1c1 }
def k1c2 : Code := { maxStack := 2, maxLocals := 9, code := method_3_code, exceptionTable := #[], attributes := #[] }
def k1m2 : Method := { name := "state", desc := "(Lcom/example/colophon/colophon/OpenIds;ILjava/lang/String;Ljava/lang/String;II)Z", sig := { parameters := [(.object "com/example/colophon/colophon/OpenIds"), .int, (.object "java/lang/String"), (.object "java/lang/String"), .int, .int], returnType := some .boolean }, accessFlags := 10, code := some k1c2 }
def k1c3 : Code := { maxStack := 2, maxLocals := 2, code := method_4_code, exceptionTable := #[], attributes := #[] }
def k1m3 : Method := { name := "same", desc := "(Ljava/lang/String;Ljava/lang/String;)Z", sig := { parameters := [(.object "java/lang/String"), (.object "java/lang/String")], returnType := some .boolean }, accessFlags := 10, code := some k1c3 }
def k1c4 : Code := { maxStack := 6, maxLocals := 5, code := method_5_code, exceptionTable := #[], attributes := #[] }
def k1m4 : Method := { name := "mk", desc := "(II)Ljava/lang/String;", sig := { parameters := [.int, .int], returnType := some (.object "java/lang/String") }, accessFlags := 10, code := some k1c4 }
/-- com/example/colophon/colophon/OpenIdsEndElementPinLaw -/
def k1 : Class := { plain "com/example/colophon/colophon/OpenIdsEndElementPinLaw" (some 0) with
  accessFlags := 49
  interfaces := #[]
  cf := some (fileOf pool1 8 #[] #[{ accessFlags := 1, nameIndex := 5, descriptorIndex := 6, attributes := #[] }, { accessFlags := 9, nameIndex := 53, descriptorIndex := 54, attributes := #[] }, { accessFlags := 10, nameIndex := 36, descriptorIndex := 37, attributes := #[] }, { accessFlags := 10, nameIndex := 28, descriptorIndex := 29, attributes := #[] }, { accessFlags := 10, nameIndex := 11, descriptorIndex := 12, attributes := #[] }] 49 2 #[] #[])
  fields := #[]
  methods := #[k1m0, k1m1, k1m2, k1m3, k1m4]
  instanceTypes := #[]
  staticTypes := #[]
  resolved := Array.replicate 58 none
  statics := none }

def pool2 : Array CpInfo := pool [(1, .class_ 2), (0, u "java/io/Serializable"), (0, .class_ 4), (0, u "java/lang/Object")] 2

/-- java/io/Serializable -/
def k2 : Class := { plain "java/io/Serializable" (some 0) with
  accessFlags := 1537
  interfaces := #[]
  cf := some (fileOf pool2 1 #[] #[] 1537 3 #[] #[])
  fields := #[]
  methods := #[]
  instanceTypes := #[]
  staticTypes := #[]
  resolved := Array.replicate 7 none
  statics := none }

def pool3 : Array CpInfo := pool [(1, .class_ 2), (0, u "java/lang/Comparable"), (0, .class_ 4), (0, u "java/lang/Object")] 7

/-- java/lang/Comparable -/
def k3 : Class := { plain "java/lang/Comparable" (some 0) with
  accessFlags := 1537
  interfaces := #[]
  cf := some (fileOf pool3 1 #[] #[] 1537 3 #[] #[])
  fields := #[]
  methods := #[]
  instanceTypes := #[]
  staticTypes := #[]
  resolved := Array.replicate 12 none
  statics := none }

def pool4 : Array CpInfo := pool [(2, .class_ 4), (1, u "java/lang/CharSequence"), (42, .class_ 48), (0, u "java/lang/CharSequence$1CodePointIterator"), (10, .class_ 60), (0, u "java/lang/CharSequence$1CharIterator"), (5, .class_ 67), (0, u "java/lang/Object")] 63

/-- java/lang/CharSequence -/
def k4 : Class := { plain "java/lang/CharSequence" (some 0) with
  accessFlags := 1537
  interfaces := #[]
  cf := some (fileOf pool4 2 #[.nestMembers #[47, 59]] #[] 1537 66 #[] #[])
  fields := #[]
  methods := #[]
  instanceTypes := #[]
  staticTypes := #[]
  resolved := Array.replicate 131 none
  statics := none }

def pool5 : Array CpInfo := pool [(1, .class_ 2), (0, u "java/lang/constant/Constable"), (0, .class_ 4), (0, u "java/lang/Object")] 6

/-- java/lang/constant/Constable -/
def k5 : Class := { plain "java/lang/constant/Constable" (some 0) with
  accessFlags := 1537
  interfaces := #[]
  cf := some (fileOf pool5 1 #[] #[] 1537 3 #[] #[])
  fields := #[]
  methods := #[]
  instanceTypes := #[]
  staticTypes := #[]
  resolved := Array.replicate 11 none
  statics := none }

def pool6 : Array CpInfo := pool [(1, .class_ 2), (0, u "java/lang/constant/ConstantDesc"), (0, .class_ 4), (0, u "java/lang/Object")] 32

/-- java/lang/constant/ConstantDesc -/
def k6 : Class := { plain "java/lang/constant/ConstantDesc" (some 0) with
  accessFlags := 1537
  interfaces := #[]
  cf := some (fileOf pool6 1 #[] #[] 1537 3 #[] #[])
  fields := #[]
  methods := #[]
  instanceTypes := #[]
  staticTypes := #[]
  resolved := Array.replicate 37 none
  statics := none }

def pool7 : Array CpInfo := pool [(1, .methodref 2 3), (0, .class_ 4), (0, .nameAndType 5 6), (0, u "java/lang/Object"), (0, u "<init>"), (0, u "()V"), (0, .string 8), (0, u ""), (0, .fieldref 10 11), (0, .class_ 12), (0, .nameAndType 13 14), (0, u "java/lang/String"), (0, u "value"), (0, u "[B"), (0, .fieldref 10 16), (0, .nameAndType 17 18), (0, u "coder"), (0, u "B"), (2, u "hash"), (0, u "I"), (2, u "hashIsZero"), (0, u "Z"), (0, .methodref 10 28), (0, .nameAndType 5 29), (0, u "([CIILjava/lang/Void;)V"), (8, .fieldref 10 39), (0, .nameAndType 40 26), (0, u "COMPACT_STRINGS"), (1, .class_ 44), (1, u "java/lang/StringUTF16"), (0, u "compress"), (1, .methodref 42 48), (0, .nameAndType 49 50), (0, u "coderFromArrayLen"), (0, u "([BI)B"), (56, .class_ 109), (1, u "java/lang/StringLatin1"), (67, .methodref 42 178), (0, .nameAndType 45 179), (0, u "([CII)[B"), (13, .class_ 195), (1, u "java/lang/System"), (15, u "([BB)V"), (0, .methodref 193 213), (0, .nameAndType 214 215), (0, u "arraycopy"), (0, u "(Ljava/lang/Object;ILjava/lang/Object;II)V"), (118, u "()I"), (0, .methodref 10 336), (0, .nameAndType 17 337), (0, u "()B"), (169, u "length"), (24, u "getBytes"), (8, .methodref 107 542), (0, .nameAndType 543 544), (0, u "equals"), (0, u "([B[B)Z"), (28, u "(Ljava/lang/Object;)Z"), (1, .class_ 576), (0, u "java/lang/CharSequence"), (22, u "CASE_INSENSITIVE_ORDER"), (0, u "Ljava/util/Comparator;"), (220, u "([BIB)V"), (188, u "([C)V"), (90, u "serialPersistentFields"), (0, u "[Ljava/io/ObjectStreamField;"), (0, .class_ 1104), (0, u "java/lang/String$CaseInsensitiveComparator"), (1, .class_ 1107), (0, u "java/io/Serializable"), (0, .class_ 1109), (0, u "java/lang/Comparable"), (0, .class_ 1111), (0, u "java/lang/constant/Constable"), (0, .class_ 1113), (0, u "java/lang/constant/ConstantDesc"), (2, u "serialVersionUID"), (0, u "J"), (3, u "REPL"), (0, u "C"), (2, u "LATIN1"), (1, u "UTF16")] 323

def k7m0 : Method := { name := "<init>", desc := "()V", sig := { parameters := [], returnType := none }, accessFlags := 1, code := none }
def k7c1 : Code := { maxStack := 5, maxLocals := 2, code := jdk_42_method_3_code, exceptionTable := #[], attributes := #[] }
def k7m1 : Method := { name := "<init>", desc := "([C)V", sig := { parameters := [(.array .char)], returnType := none }, accessFlags := 1, code := some k7c1 }
def k7c2 : Code := { maxStack := 2, maxLocals := 1, code := jdk_42_method_54_code, exceptionTable := #[], attributes := #[] }
def k7m2 : Method := { name := "length", desc := "()I", sig := { parameters := [], returnType := some .int }, accessFlags := 1, code := some k7c2 }
def k7c3 : Code := { maxStack := 2, maxLocals := 3, code := jdk_42_method_66_code, exceptionTable := #[], attributes := #[] }
def k7m3 : Method := { name := "equals", desc := "(Ljava/lang/Object;)Z", sig := { parameters := [(.object "java/lang/Object")], returnType := some .boolean }, accessFlags := 1, code := some k7c3 }
def k7c4 : Code := { maxStack := 5, maxLocals := 4, code := jdk_42_method_147_code, exceptionTable := #[], attributes := #[] }
def k7m4 : Method := { name := "getBytes", desc := "([BIB)V", sig := { parameters := [(.array .byte), .int, .byte], returnType := none }, accessFlags := 0, code := some k7c4 }
def k7c5 : Code := { maxStack := 4, maxLocals := 6, code := jdk_42_method_149_code, exceptionTable := #[], attributes := #[] }
def k7m5 : Method := { name := "<init>", desc := "([CIILjava/lang/Void;)V", sig := { parameters := [(.array .char), .int, .int, (.object "java/lang/Void")], returnType := none }, accessFlags := 2, code := some k7c5 }
def k7c6 : Code := { maxStack := 2, maxLocals := 3, code := jdk_42_method_151_code, exceptionTable := #[], attributes := #[] }
def k7m6 : Method := { name := "<init>", desc := "([BB)V", sig := { parameters := [(.array .byte), .byte], returnType := none }, accessFlags := 0, code := some k7c6 }
def k7c7 : Code := { maxStack := 1, maxLocals := 1, code := jdk_42_method_152_code, exceptionTable := #[], attributes := #[] }
def k7m7 : Method := { name := "coder", desc := "()B", sig := { parameters := [], returnType := some .byte }, accessFlags := 0, code := some k7c7 }
/-- java/lang/String -/
def k7 : Class := { plain "java/lang/String" (some 0) with
  accessFlags := 49
  interfaces := #[2, 3, 4, 5, 6]
  cf := some (fileOf pool7 10 #[.nestMembers #[1103]] #[{ accessFlags := 1, nameIndex := 5, descriptorIndex := 6, attributes := #[] }, { accessFlags := 1, nameIndex := 5, descriptorIndex := 1010, attributes := #[] }, { accessFlags := 1, nameIndex := 507, descriptorIndex := 334, attributes := #[] }, { accessFlags := 1, nameIndex := 543, descriptorIndex := 573, attributes := #[] }, { accessFlags := 0, nameIndex := 532, descriptorIndex := 821, attributes := #[] }, { accessFlags := 2, nameIndex := 5, descriptorIndex := 29, attributes := #[] }, { accessFlags := 0, nameIndex := 5, descriptorIndex := 211, attributes := #[] }, { accessFlags := 0, nameIndex := 17, descriptorIndex := 337, attributes := #[] }] 49 2 #[1106, 1108, 575, 1110, 1112] #[{ accessFlags := 18, nameIndex := 13, descriptorIndex := 14, attributes := #[] }, { accessFlags := 18, nameIndex := 17, descriptorIndex := 18, attributes := #[] }, { accessFlags := 2, nameIndex := 21, descriptorIndex := 22, attributes := #[] }, { accessFlags := 2, nameIndex := 25, descriptorIndex := 26, attributes := #[] }, { accessFlags := 26, nameIndex := 1116, descriptorIndex := 1117, attributes := #[] }, { accessFlags := 24, nameIndex := 40, descriptorIndex := 26, attributes := #[] }, { accessFlags := 26, nameIndex := 1101, descriptorIndex := 1102, attributes := #[] }, { accessFlags := 26, nameIndex := 1121, descriptorIndex := 1122, attributes := #[] }, { accessFlags := 25, nameIndex := 599, descriptorIndex := 600, attributes := #[] }, { accessFlags := 24, nameIndex := 1125, descriptorIndex := 18, attributes := #[] }, { accessFlags := 24, nameIndex := 1127, descriptorIndex := 18, attributes := #[] }])
  fields := #[{ name := "value", type := (.array .byte), accessFlags := 18, slot := 0, constantValue := 0 }, { name := "coder", type := .byte, accessFlags := 18, slot := 1, constantValue := 0 }, { name := "hash", type := .int, accessFlags := 2, slot := 2, constantValue := 0 }, { name := "hashIsZero", type := .boolean, accessFlags := 2, slot := 3, constantValue := 0 }, { name := "serialVersionUID", type := .long, accessFlags := 26, slot := 0, constantValue := 0 }, { name := "COMPACT_STRINGS", type := .boolean, accessFlags := 24, slot := 1, constantValue := 0 }, { name := "serialPersistentFields", type := (.array (.object "java/io/ObjectStreamField")), accessFlags := 26, slot := 2, constantValue := 0 }, { name := "REPL", type := .char, accessFlags := 26, slot := 3, constantValue := 0 }, { name := "CASE_INSENSITIVE_ORDER", type := (.object "java/util/Comparator"), accessFlags := 25, slot := 4, constantValue := 0 }, { name := "LATIN1", type := .byte, accessFlags := 24, slot := 5, constantValue := 0 }, { name := "UTF16", type := .byte, accessFlags := 24, slot := 6, constantValue := 0 }]
  methods := #[k7m0, k7m1, k7m2, k7m3, k7m4, k7m5, k7m6, k7m7]
  instanceTypes := #[(.array .byte), .byte, .int, .boolean]
  staticTypes := #[.long, .boolean, (.array (.object "java/io/ObjectStreamField")), .char, (.object "java/util/Comparator"), .byte, .byte]
  resolved := Array.replicate 1451 none
  statics := some 0 }

def pool8 : Array CpInfo := pool [(6, .class_ 8), (1, u "java/lang/Object"), (0, u "<init>"), (0, u "()V"), (1, .class_ 14), (1, u "java/lang/StringUTF16"), (31, u "$assertionsDisabled"), (0, u "Z"), (13, u "HI_BYTE_SHIFT"), (0, u "I"), (2, u "LO_BYTE_SHIFT"), (49, .methodref 12 116), (0, .nameAndType 117 118), (0, u "compress"), (0, u "([CI[BII)I"), (3, u "([CII)[B"), (138, u "coderFromArrayLen"), (0, u "([BI)B"), (106, .class_ 371), (1, u "java/lang/StringUTF16$LinesSpliterator"), (58, u "MAX_LENGTH"), (196, .class_ 628), (0, u "java/lang/StringUTF16$CodePointsSpliterator"), (0, .class_ 630), (0, u "java/lang/StringUTF16$CharsSpliterator")] 4

def k8m0 : Method := { name := "<init>", desc := "()V", sig := { parameters := [], returnType := none }, accessFlags := 0, code := none }
def k8c1 : Code := { maxStack := 2, maxLocals := 2, code := jdk_52_method_15_code, exceptionTable := #[], attributes := #[] }
def k8m1 : Method := { name := "coderFromArrayLen", desc := "([BI)B", sig := { parameters := [(.array .byte), .int], returnType := some .byte }, accessFlags := 8, code := some k8c1 }
def k8c2 : Code := { maxStack := 5, maxLocals := 6, code := jdk_52_method_16_code, exceptionTable := #[], attributes := #[] }
def k8m2 : Method := { name := "compress", desc := "([CII)[B", sig := { parameters := [(.array .char), .int, .int], returnType := some (.array .byte) }, accessFlags := 9, code := some k8c2 }
def k8c3 : Code := { maxStack := 3, maxLocals := 7, code := jdk_52_method_21_code, exceptionTable := #[], attributes := #[] }
def k8m3 : Method := { name := "compress", desc := "([CI[BII)I", sig := { parameters := [(.array .char), .int, (.array .byte), .int, .int], returnType := some .int }, accessFlags := 9, code := some k8c3 }
/-- java/lang/StringUTF16 -/
def k8 : Class := { plain "java/lang/StringUTF16" (some 0) with
  accessFlags := 48
  interfaces := #[]
  cf := some (fileOf pool8 12 #[.nestMembers #[627, 629, 369]] #[{ accessFlags := 0, nameIndex := 9, descriptorIndex := 10, attributes := #[] }, { accessFlags := 8, nameIndex := 261, descriptorIndex := 262, attributes := #[] }, { accessFlags := 9, nameIndex := 117, descriptorIndex := 122, attributes := #[] }, { accessFlags := 9, nameIndex := 117, descriptorIndex := 118, attributes := #[] }] 48 6 #[] #[{ accessFlags := 26, nameIndex := 61, descriptorIndex := 62, attributes := #[] }, { accessFlags := 26, nameIndex := 65, descriptorIndex := 62, attributes := #[] }, { accessFlags := 24, nameIndex := 430, descriptorIndex := 62, attributes := #[] }, { accessFlags := 4120, nameIndex := 46, descriptorIndex := 47, attributes := #[] }])
  fields := #[{ name := "HI_BYTE_SHIFT", type := .int, accessFlags := 26, slot := 0, constantValue := 0 }, { name := "LO_BYTE_SHIFT", type := .int, accessFlags := 26, slot := 1, constantValue := 0 }, { name := "MAX_LENGTH", type := .int, accessFlags := 24, slot := 2, constantValue := 0 }, { name := "$assertionsDisabled", type := .boolean, accessFlags := 4120, slot := 3, constantValue := 0 }]
  methods := #[k8m0, k8m1, k8m2, k8m3]
  instanceTypes := #[]
  staticTypes := #[.int, .int, .int, .boolean]
  resolved := Array.replicate 635 none
  statics := none }

def pool9 : Array CpInfo := pool [(1, .methodref 2 3), (0, .class_ 4), (0, .nameAndType 5 6), (0, u "java/lang/Object"), (0, u "<init>"), (0, u "()V"), (0, .class_ 8), (0, u "java/lang/StringBuilder"), (0, .methodref 7 3), (0, .fieldref 11 12), (0, .class_ 13), (0, .nameAndType 14 15), (0, u "com/example/colophon/colophon/OpenIds"), (0, u "characters"), (0, u "Ljava/lang/StringBuilder;"), (0, .fieldref 11 17), (0, .nameAndType 18 19), (0, u "depths"), (0, u "[I"), (0, .fieldref 11 21), (0, .nameAndType 22 19), (0, u "starts"), (0, .fieldref 11 24), (0, .nameAndType 25 26), (0, u "count"), (0, u "I"), (6, .methodref 7 34), (0, .nameAndType 35 36), (0, u "length"), (0, u "()I"), (0, .methodref 7 38), (0, .nameAndType 39 40), (0, u "append"), (0, u "(Ljava/lang/String;)Ljava/lang/StringBuilder;"), (0, .fieldref 11 42), (0, .nameAndType 43 44), (0, u "innermost"), (0, u "Ljava/lang/String;"), (0, .methodref 7 46), (0, .nameAndType 47 48), (0, u "setLength"), (0, u "(I)V"), (0, .methodref 7 50), (0, .nameAndType 51 52), (0, u "substring"), (0, u "(I)Ljava/lang/String;"), (2, u "startElement"), (0, u "(ILjava/lang/String;)V"), (1, u "endElement"), (0, u "()Ljava/lang/String;")] 2

def k9c0 : Code := { maxStack := 3, maxLocals := 1, code := prog_28_method_1_code, exceptionTable := #[], attributes := #[] }
def k9m0 : Method := { name := "<init>", desc := "()V", sig := { parameters := [], returnType := none }, accessFlags := 0, code := some k9c0 }
def k9c1 : Code := { maxStack := 4, maxLocals := 3, code := prog_28_method_2_code, exceptionTable := #[], attributes := #[] }
def k9m1 : Method := { name := "startElement", desc := "(ILjava/lang/String;)V", sig := { parameters := [.int, (.object "java/lang/String")], returnType := none }, accessFlags := 0, code := some k9c1 }
def k9c2 : Code := { maxStack := 3, maxLocals := 2, code := prog_28_method_3_code, exceptionTable := #[], attributes := #[] }
def k9m2 : Method := { name := "endElement", desc := "(I)V", sig := { parameters := [.int], returnType := none }, accessFlags := 0, code := some k9c2 }
def k9c3 : Code := { maxStack := 5, maxLocals := 1, code := prog_28_method_4_code, exceptionTable := #[], attributes := #[] }
def k9m3 : Method := { name := "innermost", desc := "()Ljava/lang/String;", sig := { parameters := [], returnType := some (.object "java/lang/String") }, accessFlags := 0, code := some k9c3 }
def k9c4 : Code := { maxStack := 1, maxLocals := 1, code := prog_28_method_5_code, exceptionTable := #[], attributes := #[] }
def k9m4 : Method := { name := "length", desc := "()I", sig := { parameters := [], returnType := some .int }, accessFlags := 0, code := some k9c4 }
/-- com/example/colophon/colophon/OpenIds -/
def k9 : Class := { plain "com/example/colophon/colophon/OpenIds" (some 0) with
  accessFlags := 48
  interfaces := #[]
  cf := some (fileOf pool9 11 #[] #[{ accessFlags := 0, nameIndex := 5, descriptorIndex := 6, attributes := #[] }, { accessFlags := 0, nameIndex := 55, descriptorIndex := 56, attributes := #[] }, { accessFlags := 0, nameIndex := 58, descriptorIndex := 48, attributes := #[] }, { accessFlags := 0, nameIndex := 43, descriptorIndex := 59, attributes := #[] }, { accessFlags := 0, nameIndex := 35, descriptorIndex := 36, attributes := #[] }] 48 2 #[] #[{ accessFlags := 18, nameIndex := 14, descriptorIndex := 15, attributes := #[] }, { accessFlags := 2, nameIndex := 18, descriptorIndex := 19, attributes := #[] }, { accessFlags := 2, nameIndex := 22, descriptorIndex := 19, attributes := #[] }, { accessFlags := 2, nameIndex := 25, descriptorIndex := 26, attributes := #[] }, { accessFlags := 2, nameIndex := 43, descriptorIndex := 44, attributes := #[] }])
  fields := #[{ name := "characters", type := (.object "java/lang/StringBuilder"), accessFlags := 18, slot := 0, constantValue := 0 }, { name := "depths", type := (.array .int), accessFlags := 2, slot := 1, constantValue := 0 }, { name := "starts", type := (.array .int), accessFlags := 2, slot := 2, constantValue := 0 }, { name := "count", type := .int, accessFlags := 2, slot := 3, constantValue := 0 }, { name := "innermost", type := (.object "java/lang/String"), accessFlags := 2, slot := 4, constantValue := 0 }]
  methods := #[k9m0, k9m1, k9m2, k9m3, k9m4]
  instanceTypes := #[(.object "java/lang/StringBuilder"), (.array .int), (.array .int), .int, (.object "java/lang/String")]
  staticTypes := #[]
  resolved := Array.replicate 62 none
  statics := none }

def pool10 : Array CpInfo := pool [(1, .class_ 2), (0, u "java/lang/Appendable"), (0, .class_ 4), (0, u "java/lang/Object")] 9

/-- java/lang/Appendable -/
def k10 : Class := { plain "java/lang/Appendable" (some 0) with
  accessFlags := 1537
  interfaces := #[]
  cf := some (fileOf pool10 1 #[] #[] 1537 3 #[] #[])
  fields := #[]
  methods := #[]
  instanceTypes := #[]
  staticTypes := #[]
  resolved := Array.replicate 14 none
  statics := none }

def pool11 : Array CpInfo := pool [(1, .class_ 2), (0, u "java/lang/String"), (0, .methodref 4 5), (0, .class_ 6), (0, .nameAndType 7 8), (0, u "java/lang/Object"), (0, u "<init>"), (0, u "()V"), (1, .class_ 12), (1, u "java/lang/AbstractStringBuilder"), (0, u "EMPTYVALUE"), (0, u "[B"), (0, .fieldref 10 16), (0, .nameAndType 17 14), (0, u "value"), (0, .fieldref 1 19), (0, .nameAndType 20 21), (0, u "COMPACT_STRINGS"), (0, u "Z"), (0, .fieldref 10 23), (0, .nameAndType 24 25), (0, u "coder"), (0, u "B"), (6, .methodref 1 33), (0, .nameAndType 34 35), (0, u "length"), (0, u "()I"), (4, .methodref 1 41), (0, .nameAndType 24 42), (0, u "()B"), (2, u "append"), (0, u "(Ljava/lang/String;)Ljava/lang/AbstractStringBuilder;"), (1, .class_ 49), (0, u "java/lang/CharSequence"), (19, u "(Ljava/lang/String;)V"), (3, .fieldref 10 74), (0, .nameAndType 75 21), (0, u "maybeLatin1"), (3, .fieldref 10 80), (0, .nameAndType 81 82), (0, u "count"), (0, u "I"), (0, .methodref 10 84), (0, .nameAndType 85 86), (0, u "isLatin1"), (0, u "()Z"), (1, .class_ 90), (1, u "java/lang/StringLatin1"), (9, .methodref 10 101), (0, .nameAndType 102 103), (0, u "ensureCapacityInternal"), (0, u "(I)V"), (57, .methodref 162 163), (0, .class_ 164), (0, .nameAndType 165 166), (0, u "jdk/internal/util/Preconditions"), (0, u "checkFromToIndex"), (0, u "(IIILjava/util/function/BiFunction;)I"), (12, .fieldref 162 180), (0, .nameAndType 181 182), (0, u "SIOOBE_FORMATTER"), (0, u "Ljava/util/function/BiFunction;"), (25, .methodref 10 209), (0, .nameAndType 210 211), (0, u "putStringAt"), (0, u "(ILjava/lang/String;)V"), (5, u "inflateIfNeededFor"), (2, .nameAndType 221 222), (0, u "getBytes"), (0, u "([BIB)V"), (77, .methodref 10 301), (0, .nameAndType 302 303), (0, u "substring"), (0, u "(II)Ljava/lang/String;"), (0, .methodref 88 305), (0, .nameAndType 306 307), (0, u "newString"), (0, u "([BII)Ljava/lang/String;"), (28, u "(I)Ljava/lang/String;"), (60, .methodref 10 398), (0, .nameAndType 217 69), (0, .methodref 1 220), (44, .class_ 445), (0, u "java/lang/Appendable"), (30, u "setLength")] 132

def k11m0 : Method := { name := "<init>", desc := "()V", sig := { parameters := [], returnType := none }, accessFlags := 0, code := none }
def k11c1 : Code := { maxStack := 2, maxLocals := 2, code := jdk_68_method_2_code, exceptionTable := #[], attributes := #[] }
def k11m1 : Method := { name := "<init>", desc := "(I)V", sig := { parameters := [.int], returnType := none }, accessFlags := 0, code := some k11c1 }
def k11c2 : Code := { maxStack := 1, maxLocals := 1, code := jdk_68_method_6_code, exceptionTable := #[], attributes := #[] }
def k11m2 : Method := { name := "length", desc := "()I", sig := { parameters := [], returnType := some .int }, accessFlags := 1, code := some k11c2 }
def k11c3 : Code := { maxStack := 4, maxLocals := 3, code := jdk_68_method_9_code, exceptionTable := #[], attributes := #[] }
def k11m3 : Method := { name := "ensureCapacityInternal", desc := "(I)V", sig := { parameters := [.int], returnType := none }, accessFlags := 2, code := some k11c3 }
def k11c4 : Code := { maxStack := 3, maxLocals := 2, code := jdk_68_method_13_code, exceptionTable := #[], attributes := #[] }
def k11m4 : Method := { name := "setLength", desc := "(I)V", sig := { parameters := [.int], returnType := none }, accessFlags := 1, code := some k11c4 }
def k11c5 : Code := { maxStack := 3, maxLocals := 3, code := jdk_68_method_22_code, exceptionTable := #[], attributes := #[] }
def k11m5 : Method := { name := "append", desc := "(Ljava/lang/String;)Ljava/lang/AbstractStringBuilder;", sig := { parameters := [(.object "java/lang/String")], returnType := some (.object "java/lang/AbstractStringBuilder") }, accessFlags := 1, code := some k11c5 }
def k11c6 : Code := { maxStack := 3, maxLocals := 2, code := jdk_68_method_40_code, exceptionTable := #[], attributes := #[] }
def k11m6 : Method := { name := "substring", desc := "(I)Ljava/lang/String;", sig := { parameters := [.int], returnType := some (.object "java/lang/String") }, accessFlags := 1, code := some k11c6 }
def k11c7 : Code := { maxStack := 4, maxLocals := 3, code := jdk_68_method_42_code, exceptionTable := #[], attributes := #[] }
def k11m7 : Method := { name := "substring", desc := "(II)Ljava/lang/String;", sig := { parameters := [.int, .int], returnType := some (.object "java/lang/String") }, accessFlags := 1, code := some k11c7 }
def k11c8 : Code := { maxStack := 1, maxLocals := 1, code := jdk_68_method_68_code, exceptionTable := #[], attributes := #[] }
def k11m8 : Method := { name := "isLatin1", desc := "()Z", sig := { parameters := [], returnType := some .boolean }, accessFlags := 16, code := some k11c8 }
def k11c9 : Code := { maxStack := 2, maxLocals := 2, code := jdk_68_method_71_code, exceptionTable := #[], attributes := #[] }
def k11m9 : Method := { name := "inflateIfNeededFor", desc := "(Ljava/lang/String;)V", sig := { parameters := [(.object "java/lang/String")], returnType := none }, accessFlags := 2, code := some k11c9 }
def k11c10 : Code := { maxStack := 4, maxLocals := 3, code := jdk_68_method_73_code, exceptionTable := #[], attributes := #[] }
def k11m10 : Method := { name := "putStringAt", desc := "(ILjava/lang/String;)V", sig := { parameters := [.int, (.object "java/lang/String")], returnType := none }, accessFlags := 2, code := some k11c10 }
/-- java/lang/AbstractStringBuilder -/
def k11 : Class := { plain "java/lang/AbstractStringBuilder" (some 0) with
  accessFlags := 1056
  interfaces := #[10, 4]
  cf := some (fileOf pool11 10 #[] #[{ accessFlags := 0, nameIndex := 7, descriptorIndex := 8, attributes := #[] }, { accessFlags := 0, nameIndex := 7, descriptorIndex := 103, attributes := #[] }, { accessFlags := 1, nameIndex := 34, descriptorIndex := 35, attributes := #[] }, { accessFlags := 2, nameIndex := 102, descriptorIndex := 103, attributes := #[] }, { accessFlags := 1, nameIndex := 476, descriptorIndex := 103, attributes := #[] }, { accessFlags := 1, nameIndex := 45, descriptorIndex := 46, attributes := #[] }, { accessFlags := 1, nameIndex := 302, descriptorIndex := 336, attributes := #[] }, { accessFlags := 1, nameIndex := 302, descriptorIndex := 303, attributes := #[] }, { accessFlags := 16, nameIndex := 85, descriptorIndex := 86, attributes := #[] }, { accessFlags := 2, nameIndex := 217, descriptorIndex := 69, attributes := #[] }, { accessFlags := 2, nameIndex := 210, descriptorIndex := 211, attributes := #[] }] 1056 4 #[444, 48] #[{ accessFlags := 0, nameIndex := 17, descriptorIndex := 14, attributes := #[] }, { accessFlags := 0, nameIndex := 24, descriptorIndex := 25, attributes := #[] }, { accessFlags := 0, nameIndex := 75, descriptorIndex := 21, attributes := #[] }, { accessFlags := 0, nameIndex := 81, descriptorIndex := 82, attributes := #[] }, { accessFlags := 26, nameIndex := 13, descriptorIndex := 14, attributes := #[] }])
  fields := #[{ name := "value", type := (.array .byte), accessFlags := 0, slot := 0, constantValue := 0 }, { name := "coder", type := .byte, accessFlags := 0, slot := 1, constantValue := 0 }, { name := "maybeLatin1", type := .boolean, accessFlags := 0, slot := 2, constantValue := 0 }, { name := "count", type := .int, accessFlags := 0, slot := 3, constantValue := 0 }, { name := "EMPTYVALUE", type := (.array .byte), accessFlags := 26, slot := 0, constantValue := 0 }]
  methods := #[k11m0, k11m1, k11m2, k11m3, k11m4, k11m5, k11m6, k11m7, k11m8, k11m9, k11m10]
  instanceTypes := #[(.array .byte), .byte, .boolean, .int]
  staticTypes := #[(.array .byte)]
  resolved := Array.replicate 609 none
  statics := none }

def pool12 : Array CpInfo := pool [(1, .methodref 2 3), (0, .class_ 4), (0, .nameAndType 5 6), (0, u "java/lang/AbstractStringBuilder"), (0, u "<init>"), (0, u "(I)V"), (17, .class_ 26), (1, u "java/lang/StringBuilder"), (0, u "append"), (0, u "(Ljava/lang/String;)Ljava/lang/StringBuilder;"), (0, .methodref 2 30), (0, .nameAndType 27 31), (0, u "(Ljava/lang/String;)Ljava/lang/AbstractStringBuilder;"), (113, u "()V"), (10, u "()I"), (95, .methodref 2 253), (0, .nameAndType 254 255), (0, u "substring"), (0, u "(II)Ljava/lang/String;"), (4, .methodref 2 261), (0, .nameAndType 254 262), (0, u "(I)Ljava/lang/String;"), (70, .methodref 2 334), (0, .nameAndType 335 6), (0, u "setLength"), (7, .methodref 2 344), (0, .nameAndType 345 156), (0, u "length"), (3, .class_ 350), (0, u "java/lang/Appendable"), (0, .class_ 352), (0, u "java/io/Serializable"), (0, .class_ 354), (0, u "java/lang/Comparable"), (0, .class_ 356), (0, u "java/lang/CharSequence"), (0, u "serialVersionUID"), (0, u "J")] 63

def k12c0 : Code := { maxStack := 2, maxLocals := 1, code := jdk_67_method_1_code, exceptionTable := #[], attributes := #[] }
def k12m0 : Method := { name := "<init>", desc := "()V", sig := { parameters := [], returnType := none }, accessFlags := 1, code := some k12c0 }
def k12c1 : Code := { maxStack := 2, maxLocals := 2, code := jdk_67_method_7_code, exceptionTable := #[], attributes := #[] }
def k12m1 : Method := { name := "append", desc := "(Ljava/lang/String;)Ljava/lang/StringBuilder;", sig := { parameters := [(.object "java/lang/String")], returnType := some (.object "java/lang/StringBuilder") }, accessFlags := 1, code := some k12c1 }
def k12c2 : Code := { maxStack := 3, maxLocals := 3, code := jdk_67_method_62_code, exceptionTable := #[], attributes := #[] }
def k12m2 : Method := { name := "substring", desc := "(II)Ljava/lang/String;", sig := { parameters := [.int, .int], returnType := some (.object "java/lang/String") }, accessFlags := 4161, code := some k12c2 }
def k12c3 : Code := { maxStack := 2, maxLocals := 2, code := jdk_67_method_64_code, exceptionTable := #[], attributes := #[] }
def k12m3 : Method := { name := "substring", desc := "(I)Ljava/lang/String;", sig := { parameters := [.int], returnType := some (.object "java/lang/String") }, accessFlags := 4161, code := some k12c3 }
def k12c4 : Code := { maxStack := 2, maxLocals := 2, code := jdk_67_method_89_code, exceptionTable := #[], attributes := #[] }
def k12m4 : Method := { name := "setLength", desc := "(I)V", sig := { parameters := [.int], returnType := none }, accessFlags := 4161, code := some k12c4 }
def k12c5 : Code := { maxStack := 1, maxLocals := 1, code := jdk_67_method_93_code, exceptionTable := #[], attributes := #[] }
def k12m5 : Method := { name := "length", desc := "()I", sig := { parameters := [], returnType := some .int }, accessFlags := 4161, code := some k12c5 }
/-- java/lang/StringBuilder -/
def k12 : Class := { plain "java/lang/StringBuilder" (some 11) with
  accessFlags := 49
  interfaces := #[10, 2, 3, 4]
  cf := some (fileOf pool12 24 #[] #[{ accessFlags := 1, nameIndex := 5, descriptorIndex := 145, attributes := #[] }, { accessFlags := 1, nameIndex := 27, descriptorIndex := 28, attributes := #[] }, { accessFlags := 4161, nameIndex := 254, descriptorIndex := 255, attributes := #[] }, { accessFlags := 4161, nameIndex := 254, descriptorIndex := 262, attributes := #[] }, { accessFlags := 4161, nameIndex := 335, descriptorIndex := 6, attributes := #[] }, { accessFlags := 4161, nameIndex := 345, descriptorIndex := 156, attributes := #[] }] 49 2 #[349, 351, 353, 355] #[{ accessFlags := 24, nameIndex := 357, descriptorIndex := 358, attributes := #[] }])
  fields := #[{ name := "serialVersionUID", type := .long, accessFlags := 24, slot := 0, constantValue := 0 }]
  methods := #[k12m0, k12m1, k12m2, k12m3, k12m4, k12m5]
  instanceTypes := #[(.array .byte), .byte, .boolean, .int]
  staticTypes := #[.long]
  resolved := Array.replicate 422 none
  statics := none }

def pool13 : Array CpInfo := pool [(2, .class_ 4), (1, u "java/lang/Object"), (0, u "<init>"), (0, u "()V"), (1, .class_ 10), (1, u "java/lang/System"), (0, u "allowSecurityManager"), (0, u "I"), (16, u "cons"), (0, u "Ljava/io/Console;"), (77, .class_ 110), (1, u "java/lang/System$CallersHolder"), (43, u "initialErrStream"), (0, u "Ljava/io/PrintStream;"), (19, u "security"), (0, u "Ljava/lang/SecurityManager;"), (31, .class_ 209), (0, u "java/lang/System$1"), (7, u "props"), (0, u "Ljava/util/Properties;"), (2, u "lineSeparator"), (0, u "Ljava/lang/String;"), (96, .class_ 321), (1, u "java/lang/System$LoggerFinder"), (5, .class_ 328), (0, u "java/lang/System$Logger"), (67, u "err"), (2, u "out"), (91, u "notSupportedJnuEncoding"), (15, u "in"), (17, u "initialIn"), (0, u "Ljava/io/InputStream;"), (35, u "bootLayer"), (0, u "Ljava/lang/ModuleLayer;"), (99, .class_ 664), (0, u "java/lang/System$2"), (9, u "NEVER"), (2, u "MAYBE"), (49, u "arraycopy"), (0, u "(Ljava/lang/Object;ILjava/lang/Object;II)V"), (72, .class_ 802), (0, u "java/lang/System$Logger$Level")] 31

def k13m0 : Method := { name := "<init>", desc := "()V", sig := { parameters := [], returnType := none }, accessFlags := 2, code := none }
def k13m1 : Method := { name := "arraycopy", desc := "(Ljava/lang/Object;ILjava/lang/Object;II)V", sig := { parameters := [(.object "java/lang/Object"), .int, (.object "java/lang/Object"), .int, .int], returnType := none }, accessFlags := 265, code := none }
/-- java/lang/System -/
def k13 : Class := { plain "java/lang/System" (some 0) with
  accessFlags := 49
  interfaces := #[]
  cf := some (fileOf pool13 8 #[.nestMembers #[319, 327, 801, 108, 663, 208]] #[{ accessFlags := 2, nameIndex := 5, descriptorIndex := 6, attributes := #[] }, { accessFlags := 265, nameIndex := 727, descriptorIndex := 728, attributes := #[] }] 49 2 #[] #[{ accessFlags := 25, nameIndex := 507, descriptorIndex := 526, attributes := #[] }, { accessFlags := 25, nameIndex := 399, descriptorIndex := 155, attributes := #[] }, { accessFlags := 25, nameIndex := 396, descriptorIndex := 155, attributes := #[] }, { accessFlags := 10, nameIndex := 525, descriptorIndex := 526, attributes := #[] }, { accessFlags := 26, nameIndex := 674, descriptorIndex := 12, attributes := #[] }, { accessFlags := 26, nameIndex := 677, descriptorIndex := 12, attributes := #[] }, { accessFlags := 10, nameIndex := 11, descriptorIndex := 12, attributes := #[] }, { accessFlags := 74, nameIndex := 175, descriptorIndex := 176, attributes := #[] }, { accessFlags := 10, nameIndex := 491, descriptorIndex := 222, attributes := #[] }, { accessFlags := 74, nameIndex := 29, descriptorIndex := 30, attributes := #[] }, { accessFlags := 74, nameIndex := 154, descriptorIndex := 155, attributes := #[] }, { accessFlags := 10, nameIndex := 217, descriptorIndex := 218, attributes := #[] }, { accessFlags := 10, nameIndex := 221, descriptorIndex := 222, attributes := #[] }, { accessFlags := 8, nameIndex := 562, descriptorIndex := 563, attributes := #[] }])
  fields := #[{ name := "in", type := (.object "java/io/InputStream"), accessFlags := 25, slot := 0, constantValue := 0 }, { name := "out", type := (.object "java/io/PrintStream"), accessFlags := 25, slot := 1, constantValue := 0 }, { name := "err", type := (.object "java/io/PrintStream"), accessFlags := 25, slot := 2, constantValue := 0 }, { name := "initialIn", type := (.object "java/io/InputStream"), accessFlags := 10, slot := 3, constantValue := 0 }, { name := "NEVER", type := .int, accessFlags := 26, slot := 4, constantValue := 0 }, { name := "MAYBE", type := .int, accessFlags := 26, slot := 5, constantValue := 0 }, { name := "allowSecurityManager", type := .int, accessFlags := 10, slot := 6, constantValue := 0 }, { name := "security", type := (.object "java/lang/SecurityManager"), accessFlags := 74, slot := 7, constantValue := 0 }, { name := "notSupportedJnuEncoding", type := (.object "java/lang/String"), accessFlags := 10, slot := 8, constantValue := 0 }, { name := "cons", type := (.object "java/io/Console"), accessFlags := 74, slot := 9, constantValue := 0 }, { name := "initialErrStream", type := (.object "java/io/PrintStream"), accessFlags := 74, slot := 10, constantValue := 0 }, { name := "props", type := (.object "java/util/Properties"), accessFlags := 10, slot := 11, constantValue := 0 }, { name := "lineSeparator", type := (.object "java/lang/String"), accessFlags := 10, slot := 12, constantValue := 0 }, { name := "bootLayer", type := (.object "java/lang/ModuleLayer"), accessFlags := 8, slot := 13, constantValue := 0 }]
  methods := #[k13m0, k13m1]
  instanceTypes := #[]
  staticTypes := #[(.object "java/io/InputStream"), (.object "java/io/PrintStream"), (.object "java/io/PrintStream"), (.object "java/io/InputStream"), .int, .int, .int, (.object "java/lang/SecurityManager"), (.object "java/lang/String"), (.object "java/io/Console"), (.object "java/io/PrintStream"), (.object "java/util/Properties"), (.object "java/lang/String"), (.object "java/lang/ModuleLayer")]
  resolved := Array.replicate 834 none
  statics := none }

def pool14 : Array CpInfo := pool [(2, .class_ 4), (1, u "java/lang/Object"), (0, u "<init>"), (0, u "()V"), (17, .class_ 26), (1, u "jdk/internal/util/Preconditions"), (20, u "checkFromToIndex"), (7, .class_ 56), (0, u "jdk/internal/util/Preconditions$4"), (57, .class_ 115), (0, u "jdk/internal/util/Preconditions$1"), (7, u "SIOOBE_FORMATTER"), (0, u "Ljava/util/function/BiFunction;"), (0, .class_ 126), (0, u "jdk/internal/util/Preconditions$2"), (3, u "AIOOBE_FORMATTER"), (0, .class_ 132), (0, u "jdk/internal/util/Preconditions$3"), (3, u "IOOBE_FORMATTER"), (46, u "(IIILjava/util/function/BiFunction;)I")] 10

def k14m0 : Method := { name := "<init>", desc := "()V", sig := { parameters := [], returnType := none }, accessFlags := 1, code := none }
def k14c1 : Code := { maxStack := 4, maxLocals := 4, code := jdk_41_method_12_code, exceptionTable := #[], attributes := #[] }
def k14m1 : Method := { name := "checkFromToIndex", desc := "(IIILjava/util/function/BiFunction;)I", sig := { parameters := [.int, .int, .int, (.object "java/util/function/BiFunction")], returnType := some .int }, accessFlags := 9, code := some k14c1 }
/-- jdk/internal/util/Preconditions -/
def k14 : Class := { plain "jdk/internal/util/Preconditions" (some 0) with
  accessFlags := 33
  interfaces := #[]
  cf := some (fileOf pool14 24 #[.nestMembers #[55, 131, 125, 114]] #[{ accessFlags := 1, nameIndex := 5, descriptorIndex := 6, attributes := #[] }, { accessFlags := 9, nameIndex := 47, descriptorIndex := 183, attributes := #[] }] 33 2 #[] #[{ accessFlags := 25, nameIndex := 123, descriptorIndex := 124, attributes := #[] }, { accessFlags := 25, nameIndex := 130, descriptorIndex := 124, attributes := #[] }, { accessFlags := 25, nameIndex := 136, descriptorIndex := 124, attributes := #[] }])
  fields := #[{ name := "SIOOBE_FORMATTER", type := (.object "java/util/function/BiFunction"), accessFlags := 25, slot := 0, constantValue := 0 }, { name := "AIOOBE_FORMATTER", type := (.object "java/util/function/BiFunction"), accessFlags := 25, slot := 1, constantValue := 0 }, { name := "IOOBE_FORMATTER", type := (.object "java/util/function/BiFunction"), accessFlags := 25, slot := 2, constantValue := 0 }]
  methods := #[k14m0, k14m1]
  instanceTypes := #[]
  staticTypes := #[(.object "java/util/function/BiFunction"), (.object "java/util/function/BiFunction"), (.object "java/util/function/BiFunction")]
  resolved := Array.replicate 194 none
  statics := some 1 }

def pool15 : Array CpInfo := pool [(1, .class_ 2), (0, u "java/lang/String"), (1, .class_ 6), (1, u "java/lang/Object"), (0, u "<init>"), (0, u "()V"), (5, .class_ 16), (1, u "java/lang/StringLatin1"), (95, .methodref 1 113), (0, .nameAndType 7 114), (0, u "([BB)V"), (6, u "$assertionsDisabled"), (0, u "Z"), (8, .class_ 133), (1, u "java/util/Arrays"), (17, .string 152), (0, u ""), (43, u "newString"), (0, u "([BII)Ljava/lang/String;"), (23, .class_ 223), (1, u "java/lang/StringLatin1$LinesSpliterator"), (8, .methodref 131 233), (0, .nameAndType 234 235), (0, u "copyOfRange"), (0, u "([BII)[B"), (45, u "equals"), (0, u "([B[B)Z"), (107, .class_ 391), (0, u "java/lang/StringLatin1$CharsSpliterator")] 3

def k15m0 : Method := { name := "<init>", desc := "()V", sig := { parameters := [], returnType := none }, accessFlags := 0, code := none }
def k15c1 : Code := { maxStack := 3, maxLocals := 3, code := jdk_43_method_13_code, exceptionTable := #[], attributes := #[] }
def k15m1 : Method := { name := "equals", desc := "([B[B)Z", sig := { parameters := [(.array .byte), (.array .byte)], returnType := some .boolean }, accessFlags := 9, code := some k15c1 }
def k15c2 : Code := { maxStack := 6, maxLocals := 3, code := jdk_43_method_47_code, exceptionTable := #[], attributes := #[] }
def k15m2 : Method := { name := "newString", desc := "([BII)Ljava/lang/String;", sig := { parameters := [(.array .byte), .int, .int], returnType := some (.object "java/lang/String") }, accessFlags := 9, code := some k15c2 }
/-- java/lang/StringLatin1 -/
def k15 : Class := { plain "java/lang/StringLatin1" (some 0) with
  accessFlags := 48
  interfaces := #[]
  cf := some (fileOf pool15 14 #[.nestMembers #[390, 221]] #[{ accessFlags := 0, nameIndex := 7, descriptorIndex := 8, attributes := #[] }, { accessFlags := 9, nameIndex := 281, descriptorIndex := 282, attributes := #[] }, { accessFlags := 9, nameIndex := 196, descriptorIndex := 197, attributes := #[] }] 48 4 #[] #[{ accessFlags := 4120, nameIndex := 121, descriptorIndex := 122, attributes := #[] }])
  fields := #[{ name := "$assertionsDisabled", type := .boolean, accessFlags := 4120, slot := 0, constantValue := 0 }]
  methods := #[k15m0, k15m1, k15m2]
  instanceTypes := #[]
  staticTypes := #[.boolean]
  resolved := Array.replicate 395 none
  statics := none }

def pool16 : Array CpInfo := pool [(2, .class_ 4), (1, u "java/lang/Object"), (0, u "<init>"), (0, u "()V"), (7, .class_ 16), (1, u "java/util/Arrays"), (57, .class_ 76), (1, u "java/util/Arrays$NaturalOrder"), (36, .class_ 115), (1, u "java/util/Arrays$LegacyMergeSort"), (1, u "Z"), (21, u "copyOfRange"), (10, .methodref 151 152), (0, .class_ 153), (0, .nameAndType 154 155), (0, u "java/lang/System"), (0, u "arraycopy"), (0, u "(Ljava/lang/Object;ILjava/lang/Object;II)V"), (148, .methodref 305 306), (0, .class_ 307), (0, .nameAndType 308 309), (0, u "java/lang/Math"), (0, u "min"), (0, u "(II)I"), (29, .methodref 14 340), (0, .nameAndType 341 342), (0, u "copyOfRangeByte"), (0, u "([BII)[B"), (0, .methodref 14 344), (0, .nameAndType 345 346), (0, u "checkLength"), (0, u "(II)V"), (28, .class_ 376), (0, u "java/util/Arrays$ArrayList"), (68, u "$assertionsDisabled"), (269, u "MIN_ARRAY_SORT_GRAN"), (0, u "I"), (2, u "INSERTIONSORT_THRESHOLD"), (255, .class_ 976), (0, u "java/util/Arrays$ArrayItr")] 52

def k16m0 : Method := { name := "<init>", desc := "()V", sig := { parameters := [], returnType := none }, accessFlags := 2, code := none }
def k16c1 : Code := { maxStack := 4, maxLocals := 2, code := jdk_65_method_131_code, exceptionTable := #[], attributes := #[] }
def k16m1 : Method := { name := "checkLength", desc := "(II)V", sig := { parameters := [.int, .int], returnType := none }, accessFlags := 10, code := some k16c1 }
def k16c2 : Code := { maxStack := 3, maxLocals := 3, code := jdk_65_method_132_code, exceptionTable := #[], attributes := #[] }
def k16m2 : Method := { name := "copyOfRange", desc := "([BII)[B", sig := { parameters := [(.array .byte), .int, .int], returnType := some (.array .byte) }, accessFlags := 9, code := some k16c2 }
def k16c3 : Code := { maxStack := 6, maxLocals := 5, code := jdk_65_method_133_code, exceptionTable := #[], attributes := #[] }
def k16m3 : Method := { name := "copyOfRangeByte", desc := "([BII)[B", sig := { parameters := [(.array .byte), .int, .int], returnType := some (.array .byte) }, accessFlags := 10, code := some k16c3 }
/-- java/util/Arrays -/
def k16 : Class := { plain "java/util/Arrays" (some 0) with
  accessFlags := 49
  interfaces := #[]
  cf := some (fileOf pool16 14 #[.nestMembers #[975, 375, 113, 74]] #[{ accessFlags := 2, nameIndex := 5, descriptorIndex := 6, attributes := #[] }, { accessFlags := 10, nameIndex := 345, descriptorIndex := 346, attributes := #[] }, { accessFlags := 9, nameIndex := 139, descriptorIndex := 342, attributes := #[] }, { accessFlags := 10, nameIndex := 341, descriptorIndex := 342, attributes := #[] }] 49 2 #[] #[{ accessFlags := 26, nameIndex := 715, descriptorIndex := 716, attributes := #[] }, { accessFlags := 26, nameIndex := 719, descriptorIndex := 716, attributes := #[] }, { accessFlags := 4120, nameIndex := 445, descriptorIndex := 117, attributes := #[] }])
  fields := #[{ name := "MIN_ARRAY_SORT_GRAN", type := .int, accessFlags := 26, slot := 0, constantValue := 0 }, { name := "INSERTIONSORT_THRESHOLD", type := .int, accessFlags := 26, slot := 1, constantValue := 0 }, { name := "$assertionsDisabled", type := .boolean, accessFlags := 4120, slot := 2, constantValue := 0 }]
  methods := #[k16m0, k16m1, k16m2, k16m3]
  instanceTypes := #[]
  staticTypes := #[.int, .int, .boolean]
  resolved := Array.replicate 1029 none
  statics := none }

def pool17 : Array CpInfo := pool [(1, .class_ 2), (0, u "java/lang/Math"), (1, .class_ 6), (1, u "java/lang/Object"), (0, u "<init>"), (0, u "()V"), (89, .class_ 100), (1, u "java/lang/Math$RandomNumberGeneratorHolder"), (71, u "negativeZeroFloatBits"), (0, u "J"), (2, u "negativeZeroDoubleBits"), (24, u "min"), (43, u "$assertionsDisabled"), (0, u "Z"), (88, u "(II)I"), (2, u "twoToTheDoubleScaleDown"), (0, u "D"), (4, u "twoToTheDoubleScaleUp"), (9, u "E"), (3, u "PI"), (2, u "TAU"), (2, u "DEGREES_TO_RADIANS"), (0, u "RADIANS_TO_DEGREES")] 94

def k17m0 : Method := { name := "<init>", desc := "()V", sig := { parameters := [], returnType := none }, accessFlags := 2, code := none }
def k17c1 : Code := { maxStack := 2, maxLocals := 2, code := jdk_29_method_69_code, exceptionTable := #[], attributes := #[] }
def k17m1 : Method := { name := "min", desc := "(II)I", sig := { parameters := [.int, .int], returnType := some .int }, accessFlags := 9, code := some k17c1 }
/-- java/lang/Math -/
def k17 : Class := { plain "java/lang/Math" (some 0) with
  accessFlags := 49
  interfaces := #[]
  cf := some (fileOf pool17 1 #[.nestMembers #[98]] #[{ accessFlags := 2, nameIndex := 7, descriptorIndex := 8, attributes := #[] }, { accessFlags := 9, nameIndex := 201, descriptorIndex := 335, attributes := #[] }] 49 4 #[] #[{ accessFlags := 25, nameIndex := 354, descriptorIndex := 339, attributes := #[] }, { accessFlags := 25, nameIndex := 358, descriptorIndex := 339, attributes := #[] }, { accessFlags := 25, nameIndex := 361, descriptorIndex := 339, attributes := #[] }, { accessFlags := 26, nameIndex := 364, descriptorIndex := 339, attributes := #[] }, { accessFlags := 26, nameIndex := 365, descriptorIndex := 339, attributes := #[] }, { accessFlags := 26, nameIndex := 172, descriptorIndex := 173, attributes := #[] }, { accessFlags := 26, nameIndex := 176, descriptorIndex := 173, attributes := #[] }, { accessFlags := 8, nameIndex := 344, descriptorIndex := 339, attributes := #[] }, { accessFlags := 8, nameIndex := 338, descriptorIndex := 339, attributes := #[] }, { accessFlags := 4120, nameIndex := 245, descriptorIndex := 246, attributes := #[] }])
  fields := #[{ name := "E", type := .double, accessFlags := 25, slot := 0, constantValue := 0 }, { name := "PI", type := .double, accessFlags := 25, slot := 1, constantValue := 0 }, { name := "TAU", type := .double, accessFlags := 25, slot := 2, constantValue := 0 }, { name := "DEGREES_TO_RADIANS", type := .double, accessFlags := 26, slot := 3, constantValue := 0 }, { name := "RADIANS_TO_DEGREES", type := .double, accessFlags := 26, slot := 4, constantValue := 0 }, { name := "negativeZeroFloatBits", type := .long, accessFlags := 26, slot := 5, constantValue := 0 }, { name := "negativeZeroDoubleBits", type := .long, accessFlags := 26, slot := 6, constantValue := 0 }, { name := "twoToTheDoubleScaleUp", type := .double, accessFlags := 8, slot := 7, constantValue := 0 }, { name := "twoToTheDoubleScaleDown", type := .double, accessFlags := 8, slot := 8, constantValue := 0 }, { name := "$assertionsDisabled", type := .boolean, accessFlags := 4120, slot := 9, constantValue := 0 }]
  methods := #[k17m0, k17m1]
  instanceTypes := #[]
  staticTypes := #[.double, .double, .double, .double, .double, .long, .long, .double, .double, .boolean]
  resolved := Array.replicate 460 none
  statics := none }

def pool18 : Array CpInfo := pool [(9, u "<init>"), (6, .class_ 18), (1, u "java/lang/Object"), (0, u "()V"), (1, .class_ 23), (1, u "jdk/internal/util/ArraysSupport"), (0, u "LOG2_ARRAY_LONG_INDEX_SCALE"), (0, u "I"), (2, u "U"), (0, u "Ljdk/internal/misc/Unsafe;"), (8, u "BIG_ENDIAN"), (0, u "Z"), (8, u "LOG2_BYTE_BIT_SIZE"), (4, u "LOG2_ARRAY_INT_INDEX_SCALE"), (54, u "JLA"), (0, u "Ljdk/internal/access/JavaLangAccess;"), (11, u "LOG2_ARRAY_BOOLEAN_INDEX_SCALE"), (9, u "LOG2_ARRAY_BYTE_INDEX_SCALE"), (5, u "LOG2_ARRAY_CHAR_INDEX_SCALE"), (5, u "LOG2_ARRAY_SHORT_INDEX_SCALE"), (18, u "LOG2_ARRAY_FLOAT_INDEX_SCALE"), (24, u "LOG2_ARRAY_DOUBLE_INDEX_SCALE"), (89, u "T_BOOLEAN"), (2, u "T_CHAR"), (1, u "T_FLOAT"), (1, u "T_DOUBLE"), (1, u "T_BYTE"), (1, u "T_SHORT"), (1, u "T_INT"), (1, u "T_LONG"), (1, u "SOFT_MAX_ARRAY_LENGTH")] 83

def k18m0 : Method := { name := "<init>", desc := "()V", sig := { parameters := [], returnType := none }, accessFlags := 2, code := none }
/-- jdk/internal/util/ArraysSupport -/
def k18 : Class := { plain "jdk/internal/util/ArraysSupport" (some 0) with
  accessFlags := 33
  interfaces := #[]
  cf := some (fileOf pool18 21 #[] #[{ accessFlags := 2, nameIndex := 9, descriptorIndex := 19, attributes := #[] }] 33 16 #[] #[{ accessFlags := 24, nameIndex := 28, descriptorIndex := 29, attributes := #[] }, { accessFlags := 26, nameIndex := 38, descriptorIndex := 39, attributes := #[] }, { accessFlags := 25, nameIndex := 121, descriptorIndex := 25, attributes := #[] }, { accessFlags := 25, nameIndex := 131, descriptorIndex := 25, attributes := #[] }, { accessFlags := 25, nameIndex := 137, descriptorIndex := 25, attributes := #[] }, { accessFlags := 25, nameIndex := 143, descriptorIndex := 25, attributes := #[] }, { accessFlags := 25, nameIndex := 53, descriptorIndex := 25, attributes := #[] }, { accessFlags := 25, nameIndex := 24, descriptorIndex := 25, attributes := #[] }, { accessFlags := 25, nameIndex := 162, descriptorIndex := 25, attributes := #[] }, { accessFlags := 25, nameIndex := 187, descriptorIndex := 25, attributes := #[] }, { accessFlags := 26, nameIndex := 48, descriptorIndex := 25, attributes := #[] }, { accessFlags := 25, nameIndex := 277, descriptorIndex := 25, attributes := #[] }, { accessFlags := 25, nameIndex := 280, descriptorIndex := 25, attributes := #[] }, { accessFlags := 25, nameIndex := 282, descriptorIndex := 25, attributes := #[] }, { accessFlags := 25, nameIndex := 284, descriptorIndex := 25, attributes := #[] }, { accessFlags := 25, nameIndex := 286, descriptorIndex := 25, attributes := #[] }, { accessFlags := 25, nameIndex := 288, descriptorIndex := 25, attributes := #[] }, { accessFlags := 25, nameIndex := 290, descriptorIndex := 25, attributes := #[] }, { accessFlags := 25, nameIndex := 292, descriptorIndex := 25, attributes := #[] }, { accessFlags := 26, nameIndex := 108, descriptorIndex := 109, attributes := #[] }, { accessFlags := 25, nameIndex := 294, descriptorIndex := 25, attributes := #[] }])
  fields := #[{ name := "U", type := (.object "jdk/internal/misc/Unsafe"), accessFlags := 24, slot := 0, constantValue := 0 }, { name := "BIG_ENDIAN", type := .boolean, accessFlags := 26, slot := 1, constantValue := 0 }, { name := "LOG2_ARRAY_BOOLEAN_INDEX_SCALE", type := .int, accessFlags := 25, slot := 2, constantValue := 0 }, { name := "LOG2_ARRAY_BYTE_INDEX_SCALE", type := .int, accessFlags := 25, slot := 3, constantValue := 0 }, { name := "LOG2_ARRAY_CHAR_INDEX_SCALE", type := .int, accessFlags := 25, slot := 4, constantValue := 0 }, { name := "LOG2_ARRAY_SHORT_INDEX_SCALE", type := .int, accessFlags := 25, slot := 5, constantValue := 0 }, { name := "LOG2_ARRAY_INT_INDEX_SCALE", type := .int, accessFlags := 25, slot := 6, constantValue := 0 }, { name := "LOG2_ARRAY_LONG_INDEX_SCALE", type := .int, accessFlags := 25, slot := 7, constantValue := 0 }, { name := "LOG2_ARRAY_FLOAT_INDEX_SCALE", type := .int, accessFlags := 25, slot := 8, constantValue := 0 }, { name := "LOG2_ARRAY_DOUBLE_INDEX_SCALE", type := .int, accessFlags := 25, slot := 9, constantValue := 0 }, { name := "LOG2_BYTE_BIT_SIZE", type := .int, accessFlags := 26, slot := 10, constantValue := 0 }, { name := "T_BOOLEAN", type := .int, accessFlags := 25, slot := 11, constantValue := 0 }, { name := "T_CHAR", type := .int, accessFlags := 25, slot := 12, constantValue := 0 }, { name := "T_FLOAT", type := .int, accessFlags := 25, slot := 13, constantValue := 0 }, { name := "T_DOUBLE", type := .int, accessFlags := 25, slot := 14, constantValue := 0 }, { name := "T_BYTE", type := .int, accessFlags := 25, slot := 15, constantValue := 0 }, { name := "T_SHORT", type := .int, accessFlags := 25, slot := 16, constantValue := 0 }, { name := "T_INT", type := .int, accessFlags := 25, slot := 17, constantValue := 0 }, { name := "T_LONG", type := .int, accessFlags := 25, slot := 18, constantValue := 0 }, { name := "JLA", type := (.object "jdk/internal/access/JavaLangAccess"), accessFlags := 26, slot := 19, constantValue := 0 }, { name := "SOFT_MAX_ARRAY_LENGTH", type := .int, accessFlags := 25, slot := 20, constantValue := 0 }]
  methods := #[k18m0]
  instanceTypes := #[]
  staticTypes := #[(.object "jdk/internal/misc/Unsafe"), .boolean, .int, .int, .int, .int, .int, .int, .int, .int, .int, .int, .int, .int, .int, .int, .int, .int, .int, (.object "jdk/internal/access/JavaLangAccess"), .int]
  resolved := Array.replicate 378 none
  statics := none }

def pool19 : Array CpInfo := pool [(1, u "java/lang/Cloneable"), (0, .class_ 1), (0, u "java/lang/Object"), (0, .class_ 3)] 3

/-- java/lang/Cloneable -/
def k19 : Class := { plain "java/lang/Cloneable" (some 0) with
  accessFlags := 1537
  interfaces := #[]
  cf := some (fileOf pool19 2 #[] #[] 1537 4 #[] #[])
  fields := #[]
  methods := #[]
  instanceTypes := #[]
  staticTypes := #[]
  resolved := Array.replicate 8 none
  statics := none }

/-- the primitive byte -/
def k20 : Class := { plain "byte" none with kind := .primitive 'B', accessFlags := 0x411 }
/-- [B -/
def k21 : Class := { plain "[B" (some 0) with kind := .array 20 .byte, interfaces := #[19, 2], accessFlags := 1041 }

/-- the primitive char -/
def k22 : Class := { plain "char" none with kind := .primitive 'C', accessFlags := 0x411 }
/-- [C -/
def k23 : Class := { plain "[C" (some 0) with kind := .array 22 .char, interfaces := #[19, 2], accessFlags := 1041 }

/-- the primitive int -/
def k24 : Class := { plain "int" none with kind := .primitive 'I', accessFlags := 0x411 }
/-- [I -/
def k25 : Class := { plain "[I" (some 0) with kind := .array 24 .int, interfaces := #[19, 2], accessFlags := 1041 }

def heap : Heap := #[{ cls := 7, slots := #[.long 0, .int 1, .null, .int 0, .null, .int 0, .int 0], vm := .statics 7 },
  { cls := 14, slots := #[.null, .null, .null], vm := .statics 14 }]
def classes : Array Class := #[k0, k1, k2, k3, k4, k5, k6, k7, k8, k9, k10, k11, k12, k13, k14, k15, k16, k17, k18, k19, k20, k21, k22, k23, k24, k25]
def interned : List (Array UInt16 × Addr) := []
def slotsUsed : Nat := 10
def theMethod : MethodId := ⟨1, 1⟩
def args0 : Array Value := #[.int 5, .int 6, .int 7, .int 8, .int 9, .int 10]
def aboutOver (below : List Frame) : State where
  vm := { classes := classes, interned := interned.toArray }
  heap := heap
  slotsUsed := slotsUsed
  threads := #[{ frames := .invoking theMethod args0 :: below }]
def below0 : List Frame := [.native { method := ⟨0, 0⟩, args := #[] }]
def about1 : State := aboutOver below0
def p0 : Program := .bare "" "" ""
def e0 : Env := launch0.env 0 0 0
theorem w_frames : about1.frames = Frame.invoking theMethod args0 :: below0 := rfl
set_option maxRecDepth 65536 in
theorem w_args : argsFit about1.vm theMethod args0 = true := by decide +kernel
set_option maxRecDepth 65536 in
theorem w_heap : heapFits about1 = true := by decide +kernel
set_option maxRecDepth 65536 in
theorem w_runnable : about1.curStatus? = some .runnable := by decide +kernel
set_option maxRecDepth 65536 in
theorem w_alone : about1.alone = true := by decide +kernel
set_option maxRecDepth 65536 in
theorem w_named : about1.methodNamed? x = some theMethod := by decide +kernel
set_option maxRecDepth 65536 in
theorem w_hears : about1.hears theMethod below0 = true := by decide +kernel
set_option maxRecDepth 65536 in
theorem w_ripe : about1.ripe theMethod args0 below0 = true := by decide +kernel
theorem w_running : about1.status = .running := rfl
set_option maxRecDepth 65536 in
theorem w_room : about1.hasRoom e0.platform room_1 = true :=
  launch0.hasRoom_least _ room_1 (by decide +kernel) (by decide +kernel) (by decide +kernel) (by decide +kernel) (by decide +kernel) (by decide +kernel)
theorem allAtoms_all (ts : List Jvm.Cond) (a : Array Jvm.Value) (st : Jvm.State) : (allAtoms ts).before a st = ts.all (fun c => c.before a st) := by
  induction ts with
  | nil => rfl
  | cons c t ih =>
    show (Jvm.Cond.and c (allAtoms t)).before a st = _
    rw [Jvm.Cond.before_and, ih, List.all_cons]
def words1 : List Jvm.Cond := Jvm.Cond.code x code maxLocals ret :: tables_1
/-- a 'code' word, met by the world's own term for the bytes: nothing is compared byte by byte -/
theorem code_word {y : MethodName} {bytes : ByteArray} {mx : Nat} {rt : Option FieldType} {a : Array Value} {s : State} {m : MethodId} {meth : Method} {c : Code} (h1 : s.methodNamed? y = some m) (h2 : s.vm.method? m = some meth) (h3 : meth.code = some c) (h4 : c.code = bytes)
    (h5 : (c.maxLocals == mx && c.exceptionTable.isEmpty && decide (c.maxStack ≤ mostOperands) && decide (meth.sig.returnType = rt) && !meth.locks && decide (parseMethodDescriptor y.desc = some meth.sig)) = true) : (Jvm.Cond.code y bytes mx rt).before a s = true := by
  simp only [Bool.and_eq_true, beq_iff_eq, Bool.not_eq_true', decide_eq_true_eq] at h5
  obtain ⟨⟨⟨⟨⟨g1, g2⟩, g3⟩, g4⟩, g5⟩, g6⟩ := h5
  simp [Cond.before, Cond.holds, Cond.value, h1, h2, h3, h4, g1, g2, g3, g4, g5, g6]
def isCode : Jvm.Cond → Bool
  | .code _ _ _ _ => true
  | _ => false
theorem all_split {L : List Jvm.Cond} {P : Jvm.Cond → Bool} (h1 : L.all (fun c => isCode c || P c) = true) (h2 : ∀ c ∈ L.filter isCode, P c = true) : L.all P = true := by
  refine List.all_eq_true.mpr fun c hc => ?_
  have h := List.all_eq_true.mp h1 c hc
  rcases Bool.eq_false_or_eq_true (isCode c) with hi | hi
  · exact h2 c (List.mem_filter.mpr ⟨hc, hi⟩)
  · simpa [hi] using h
set_option maxRecDepth 65536 in
theorem w_c0 : (Jvm.Cond.code x code maxLocals ret).before args0 about1 = true := code_word (m := ⟨1, 1⟩) (meth := k1m1) (c := k1c1) (by decide +kernel) rfl rfl rfl (by decide +kernel)
set_option maxRecDepth 65536 in
theorem w_c1 : (Jvm.Cond.code ({ cls := "com/example/colophon/colophon/OpenIdsEndElementPinLaw", name := "mk", desc := "(II)Ljava/lang/String;" } : Jvm.MethodName) method_5_code (5 : Nat) (Option.some (Jvm.ClassFile.FieldType.object "java/lang/String"))).before args0 about1 = true := code_word (m := ⟨1, 4⟩) (meth := k1m4) (c := k1c4) (by decide +kernel) rfl rfl rfl (by decide +kernel)
set_option maxRecDepth 65536 in
theorem w_c2 : (Jvm.Cond.code ({ cls := "java/lang/String", name := "<init>", desc := "([C)V" } : Jvm.MethodName) jdk_42_method_3_code (2 : Nat) (Option.none : Option Jvm.ClassFile.FieldType)).before args0 about1 = true := code_word (m := ⟨7, 1⟩) (meth := k7m1) (c := k7c1) (by decide +kernel) rfl rfl rfl (by decide +kernel)
set_option maxRecDepth 65536 in
theorem w_c3 : (Jvm.Cond.code ({ cls := "java/lang/String", name := "<init>", desc := "([CIILjava/lang/Void;)V" } : Jvm.MethodName) jdk_42_method_149_code (6 : Nat) (Option.none : Option Jvm.ClassFile.FieldType)).before args0 about1 = true := code_word (m := ⟨7, 5⟩) (meth := k7m5) (c := k7c5) (by decide +kernel) rfl rfl rfl (by decide +kernel)
set_option maxRecDepth 65536 in
theorem w_c4 : (Jvm.Cond.code ({ cls := "java/lang/Object", name := "<init>", desc := "()V" } : Jvm.MethodName) object_method_1_code (1 : Nat) (Option.none : Option Jvm.ClassFile.FieldType)).before args0 about1 = true := code_word (m := ⟨0, 0⟩) (meth := k0m0) (c := k0c0) (by decide +kernel) rfl rfl rfl (by decide +kernel)
set_option maxRecDepth 65536 in
theorem w_c5 : (Jvm.Cond.code ({ cls := "java/lang/StringUTF16", name := "compress", desc := "([CII)[B" } : Jvm.MethodName) jdk_52_method_16_code (6 : Nat) (Option.some (Jvm.ClassFile.FieldType.array Jvm.ClassFile.FieldType.byte))).before args0 about1 = true := code_word (m := ⟨8, 2⟩) (meth := k8m2) (c := k8c2) (by decide +kernel) rfl rfl rfl (by decide +kernel)
set_option maxRecDepth 65536 in
theorem w_c6 : (Jvm.Cond.code ({ cls := "java/lang/StringUTF16", name := "compress", desc := "([CI[BII)I" } : Jvm.MethodName) jdk_52_method_21_code (7 : Nat) (Option.some Jvm.ClassFile.FieldType.int)).before args0 about1 = true := code_word (m := ⟨8, 3⟩) (meth := k8m3) (c := k8c3) (by decide +kernel) rfl rfl rfl (by decide +kernel)
set_option maxRecDepth 65536 in
theorem w_c7 : (Jvm.Cond.code ({ cls := "java/lang/StringUTF16", name := "coderFromArrayLen", desc := "([BI)B" } : Jvm.MethodName) jdk_52_method_15_code (2 : Nat) (Option.some Jvm.ClassFile.FieldType.byte)).before args0 about1 = true := code_word (m := ⟨8, 1⟩) (meth := k8m1) (c := k8c1) (by decide +kernel) rfl rfl rfl (by decide +kernel)
set_option maxRecDepth 65536 in
theorem w_c8 : (Jvm.Cond.code ({ cls := "com/example/colophon/colophon/OpenIds", name := "<init>", desc := "()V" } : Jvm.MethodName) prog_28_method_1_code (1 : Nat) (Option.none : Option Jvm.ClassFile.FieldType)).before args0 about1 = true := code_word (m := ⟨9, 0⟩) (meth := k9m0) (c := k9c0) (by decide +kernel) rfl rfl rfl (by decide +kernel)
set_option maxRecDepth 65536 in
theorem w_c9 : (Jvm.Cond.code ({ cls := "java/lang/StringBuilder", name := "<init>", desc := "()V" } : Jvm.MethodName) jdk_67_method_1_code (1 : Nat) (Option.none : Option Jvm.ClassFile.FieldType)).before args0 about1 = true := code_word (m := ⟨12, 0⟩) (meth := k12m0) (c := k12c0) (by decide +kernel) rfl rfl rfl (by decide +kernel)
set_option maxRecDepth 65536 in
theorem w_c10 : (Jvm.Cond.code ({ cls := "java/lang/AbstractStringBuilder", name := "<init>", desc := "(I)V" } : Jvm.MethodName) jdk_68_method_2_code (2 : Nat) (Option.none : Option Jvm.ClassFile.FieldType)).before args0 about1 = true := code_word (m := ⟨11, 1⟩) (meth := k11m1) (c := k11c1) (by decide +kernel) rfl rfl rfl (by decide +kernel)
set_option maxRecDepth 65536 in
theorem w_c11 : (Jvm.Cond.code ({ cls := "com/example/colophon/colophon/OpenIds", name := "startElement", desc := "(ILjava/lang/String;)V" } : Jvm.MethodName) prog_28_method_2_code (3 : Nat) (Option.none : Option Jvm.ClassFile.FieldType)).before args0 about1 = true := code_word (m := ⟨9, 1⟩) (meth := k9m1) (c := k9c1) (by decide +kernel) rfl rfl rfl (by decide +kernel)
set_option maxRecDepth 65536 in
theorem w_c12 : (Jvm.Cond.code ({ cls := "java/lang/StringBuilder", name := "length", desc := "()I" } : Jvm.MethodName) jdk_67_method_93_code (1 : Nat) (Option.some Jvm.ClassFile.FieldType.int)).before args0 about1 = true := code_word (m := ⟨12, 5⟩) (meth := k12m5) (c := k12c5) (by decide +kernel) rfl rfl rfl (by decide +kernel)
set_option maxRecDepth 65536 in
theorem w_c13 : (Jvm.Cond.code ({ cls := "java/lang/AbstractStringBuilder", name := "length", desc := "()I" } : Jvm.MethodName) jdk_68_method_6_code (1 : Nat) (Option.some Jvm.ClassFile.FieldType.int)).before args0 about1 = true := code_word (m := ⟨11, 2⟩) (meth := k11m2) (c := k11c2) (by decide +kernel) rfl rfl rfl (by decide +kernel)
set_option maxRecDepth 65536 in
theorem w_c14 : (Jvm.Cond.code ({ cls := "java/lang/StringBuilder", name := "append", desc := "(Ljava/lang/String;)Ljava/lang/StringBuilder;" } : Jvm.MethodName) jdk_67_method_7_code (2 : Nat) (Option.some (Jvm.ClassFile.FieldType.object "java/lang/StringBuilder"))).before args0 about1 = true := code_word (m := ⟨12, 1⟩) (meth := k12m1) (c := k12c1) (by decide +kernel) rfl rfl rfl (by decide +kernel)
set_option maxRecDepth 65536 in
theorem w_c15 : (Jvm.Cond.code ({ cls := "java/lang/AbstractStringBuilder", name := "append", desc := "(Ljava/lang/String;)Ljava/lang/AbstractStringBuilder;" } : Jvm.MethodName) jdk_68_method_22_code (3 : Nat) (Option.some (Jvm.ClassFile.FieldType.object "java/lang/AbstractStringBuilder"))).before args0 about1 = true := code_word (m := ⟨11, 5⟩) (meth := k11m5) (c := k11c5) (by decide +kernel) rfl rfl rfl (by decide +kernel)
set_option maxRecDepth 65536 in
theorem w_c16 : (Jvm.Cond.code ({ cls := "java/lang/String", name := "length", desc := "()I" } : Jvm.MethodName) jdk_42_method_54_code (1 : Nat) (Option.some Jvm.ClassFile.FieldType.int)).before args0 about1 = true := code_word (m := ⟨7, 2⟩) (meth := k7m2) (c := k7c2) (by decide +kernel) rfl rfl rfl (by decide +kernel)
set_option maxRecDepth 65536 in
theorem w_c17 : (Jvm.Cond.code ({ cls := "java/lang/String", name := "coder", desc := "()B" } : Jvm.MethodName) jdk_42_method_152_code (1 : Nat) (Option.some Jvm.ClassFile.FieldType.byte)).before args0 about1 = true := code_word (m := ⟨7, 7⟩) (meth := k7m7) (c := k7c7) (by decide +kernel) rfl rfl rfl (by decide +kernel)
set_option maxRecDepth 65536 in
theorem w_c18 : (Jvm.Cond.code ({ cls := "java/lang/AbstractStringBuilder", name := "ensureCapacityInternal", desc := "(I)V" } : Jvm.MethodName) jdk_68_method_9_code (3 : Nat) (Option.none : Option Jvm.ClassFile.FieldType)).before args0 about1 = true := code_word (m := ⟨11, 3⟩) (meth := k11m3) (c := k11c3) (by decide +kernel) rfl rfl rfl (by decide +kernel)
set_option maxRecDepth 65536 in
theorem w_c19 : (Jvm.Cond.code ({ cls := "java/lang/AbstractStringBuilder", name := "putStringAt", desc := "(ILjava/lang/String;)V" } : Jvm.MethodName) jdk_68_method_73_code (3 : Nat) (Option.none : Option Jvm.ClassFile.FieldType)).before args0 about1 = true := code_word (m := ⟨11, 10⟩) (meth := k11m10) (c := k11c10) (by decide +kernel) rfl rfl rfl (by decide +kernel)
set_option maxRecDepth 65536 in
theorem w_c20 : (Jvm.Cond.code ({ cls := "java/lang/AbstractStringBuilder", name := "inflateIfNeededFor", desc := "(Ljava/lang/String;)V" } : Jvm.MethodName) jdk_68_method_71_code (2 : Nat) (Option.none : Option Jvm.ClassFile.FieldType)).before args0 about1 = true := code_word (m := ⟨11, 9⟩) (meth := k11m9) (c := k11c9) (by decide +kernel) rfl rfl rfl (by decide +kernel)
set_option maxRecDepth 65536 in
theorem w_c21 : (Jvm.Cond.code ({ cls := "java/lang/String", name := "getBytes", desc := "([BIB)V" } : Jvm.MethodName) jdk_42_method_147_code (4 : Nat) (Option.none : Option Jvm.ClassFile.FieldType)).before args0 about1 = true := code_word (m := ⟨7, 4⟩) (meth := k7m4) (c := k7c4) (by decide +kernel) rfl rfl rfl (by decide +kernel)
set_option maxRecDepth 65536 in
theorem w_c22 : (Jvm.Cond.code ({ cls := "com/example/colophon/colophon/OpenIds", name := "endElement", desc := "(I)V" } : Jvm.MethodName) prog_28_method_3_code (2 : Nat) (Option.none : Option Jvm.ClassFile.FieldType)).before args0 about1 = true := code_word (m := ⟨9, 2⟩) (meth := k9m2) (c := k9c2) (by decide +kernel) rfl rfl rfl (by decide +kernel)
set_option maxRecDepth 65536 in
theorem w_c23 : (Jvm.Cond.code ({ cls := "com/example/colophon/colophon/OpenIdsEndElementPinLaw", name := "state", desc := "(Lcom/example/colophon/colophon/OpenIds;ILjava/lang/String;Ljava/lang/String;II)Z" } : Jvm.MethodName) method_3_code (9 : Nat) (Option.some Jvm.ClassFile.FieldType.boolean)).before args0 about1 = true := code_word (m := ⟨1, 2⟩) (meth := k1m2) (c := k1c2) (by decide +kernel) rfl rfl rfl (by decide +kernel)
set_option maxRecDepth 65536 in
theorem w_c24 : (Jvm.Cond.code ({ cls := "com/example/colophon/colophon/OpenIds", name := "innermost", desc := "()Ljava/lang/String;" } : Jvm.MethodName) prog_28_method_4_code (1 : Nat) (Option.some (Jvm.ClassFile.FieldType.object "java/lang/String"))).before args0 about1 = true := code_word (m := ⟨9, 3⟩) (meth := k9m3) (c := k9c3) (by decide +kernel) rfl rfl rfl (by decide +kernel)
set_option maxRecDepth 65536 in
theorem w_c25 : (Jvm.Cond.code ({ cls := "com/example/colophon/colophon/OpenIdsEndElementPinLaw", name := "same", desc := "(Ljava/lang/String;Ljava/lang/String;)Z" } : Jvm.MethodName) method_4_code (2 : Nat) (Option.some Jvm.ClassFile.FieldType.boolean)).before args0 about1 = true := code_word (m := ⟨1, 3⟩) (meth := k1m3) (c := k1c3) (by decide +kernel) rfl rfl rfl (by decide +kernel)
set_option maxRecDepth 65536 in
theorem w_c26 : (Jvm.Cond.code ({ cls := "java/lang/String", name := "equals", desc := "(Ljava/lang/Object;)Z" } : Jvm.MethodName) jdk_42_method_66_code (3 : Nat) (Option.some Jvm.ClassFile.FieldType.boolean)).before args0 about1 = true := code_word (m := ⟨7, 3⟩) (meth := k7m3) (c := k7c3) (by decide +kernel) rfl rfl rfl (by decide +kernel)
set_option maxRecDepth 65536 in
theorem w_c27 : (Jvm.Cond.code ({ cls := "com/example/colophon/colophon/OpenIds", name := "length", desc := "()I" } : Jvm.MethodName) prog_28_method_5_code (1 : Nat) (Option.some Jvm.ClassFile.FieldType.int)).before args0 about1 = true := code_word (m := ⟨9, 4⟩) (meth := k9m4) (c := k9c4) (by decide +kernel) rfl rfl rfl (by decide +kernel)
set_option maxRecDepth 65536 in
theorem w_c28 : (Jvm.Cond.code ({ cls := "java/lang/StringBuilder", name := "setLength", desc := "(I)V" } : Jvm.MethodName) jdk_67_method_89_code (2 : Nat) (Option.none : Option Jvm.ClassFile.FieldType)).before args0 about1 = true := code_word (m := ⟨12, 4⟩) (meth := k12m4) (c := k12c4) (by decide +kernel) rfl rfl rfl (by decide +kernel)
set_option maxRecDepth 65536 in
theorem w_c29 : (Jvm.Cond.code ({ cls := "java/lang/AbstractStringBuilder", name := "setLength", desc := "(I)V" } : Jvm.MethodName) jdk_68_method_13_code (2 : Nat) (Option.none : Option Jvm.ClassFile.FieldType)).before args0 about1 = true := code_word (m := ⟨11, 4⟩) (meth := k11m4) (c := k11c4) (by decide +kernel) rfl rfl rfl (by decide +kernel)
set_option maxRecDepth 65536 in
theorem w_c30 : (Jvm.Cond.code ({ cls := "java/lang/StringBuilder", name := "substring", desc := "(I)Ljava/lang/String;" } : Jvm.MethodName) jdk_67_method_64_code (2 : Nat) (Option.some (Jvm.ClassFile.FieldType.object "java/lang/String"))).before args0 about1 = true := code_word (m := ⟨12, 3⟩) (meth := k12m3) (c := k12c3) (by decide +kernel) rfl rfl rfl (by decide +kernel)
set_option maxRecDepth 65536 in
theorem w_c31 : (Jvm.Cond.code ({ cls := "java/lang/AbstractStringBuilder", name := "substring", desc := "(I)Ljava/lang/String;" } : Jvm.MethodName) jdk_68_method_40_code (2 : Nat) (Option.some (Jvm.ClassFile.FieldType.object "java/lang/String"))).before args0 about1 = true := code_word (m := ⟨11, 6⟩) (meth := k11m6) (c := k11c6) (by decide +kernel) rfl rfl rfl (by decide +kernel)
set_option maxRecDepth 65536 in
theorem w_c32 : (Jvm.Cond.code ({ cls := "java/lang/StringBuilder", name := "substring", desc := "(II)Ljava/lang/String;" } : Jvm.MethodName) jdk_67_method_62_code (3 : Nat) (Option.some (Jvm.ClassFile.FieldType.object "java/lang/String"))).before args0 about1 = true := code_word (m := ⟨12, 2⟩) (meth := k12m2) (c := k12c2) (by decide +kernel) rfl rfl rfl (by decide +kernel)
set_option maxRecDepth 65536 in
theorem w_c33 : (Jvm.Cond.code ({ cls := "java/lang/AbstractStringBuilder", name := "substring", desc := "(II)Ljava/lang/String;" } : Jvm.MethodName) jdk_68_method_42_code (3 : Nat) (Option.some (Jvm.ClassFile.FieldType.object "java/lang/String"))).before args0 about1 = true := code_word (m := ⟨11, 7⟩) (meth := k11m7) (c := k11c7) (by decide +kernel) rfl rfl rfl (by decide +kernel)
set_option maxRecDepth 65536 in
theorem w_c34 : (Jvm.Cond.code ({ cls := "jdk/internal/util/Preconditions", name := "checkFromToIndex", desc := "(IIILjava/util/function/BiFunction;)I" } : Jvm.MethodName) jdk_41_method_12_code (4 : Nat) (Option.some Jvm.ClassFile.FieldType.int)).before args0 about1 = true := code_word (m := ⟨14, 1⟩) (meth := k14m1) (c := k14c1) (by decide +kernel) rfl rfl rfl (by decide +kernel)
set_option maxRecDepth 65536 in
theorem w_c35 : (Jvm.Cond.code ({ cls := "java/lang/AbstractStringBuilder", name := "isLatin1", desc := "()Z" } : Jvm.MethodName) jdk_68_method_68_code (1 : Nat) (Option.some Jvm.ClassFile.FieldType.boolean)).before args0 about1 = true := code_word (m := ⟨11, 8⟩) (meth := k11m8) (c := k11c8) (by decide +kernel) rfl rfl rfl (by decide +kernel)
set_option maxRecDepth 65536 in
theorem w_c36 : (Jvm.Cond.code ({ cls := "java/lang/StringLatin1", name := "newString", desc := "([BII)Ljava/lang/String;" } : Jvm.MethodName) jdk_43_method_47_code (3 : Nat) (Option.some (Jvm.ClassFile.FieldType.object "java/lang/String"))).before args0 about1 = true := code_word (m := ⟨15, 2⟩) (meth := k15m2) (c := k15c2) (by decide +kernel) rfl rfl rfl (by decide +kernel)
set_option maxRecDepth 65536 in
theorem w_c37 : (Jvm.Cond.code ({ cls := "java/lang/StringLatin1", name := "equals", desc := "([B[B)Z" } : Jvm.MethodName) jdk_43_method_13_code (3 : Nat) (Option.some Jvm.ClassFile.FieldType.boolean)).before args0 about1 = true := code_word (m := ⟨15, 1⟩) (meth := k15m1) (c := k15c1) (by decide +kernel) rfl rfl rfl (by decide +kernel)
set_option maxRecDepth 65536 in
theorem w_c38 : (Jvm.Cond.code ({ cls := "java/util/Arrays", name := "copyOfRange", desc := "([BII)[B" } : Jvm.MethodName) jdk_65_method_132_code (3 : Nat) (Option.some (Jvm.ClassFile.FieldType.array Jvm.ClassFile.FieldType.byte))).before args0 about1 = true := code_word (m := ⟨16, 2⟩) (meth := k16m2) (c := k16c2) (by decide +kernel) rfl rfl rfl (by decide +kernel)
set_option maxRecDepth 65536 in
theorem w_c39 : (Jvm.Cond.code ({ cls := "java/util/Arrays", name := "copyOfRangeByte", desc := "([BII)[B" } : Jvm.MethodName) jdk_65_method_133_code (5 : Nat) (Option.some (Jvm.ClassFile.FieldType.array Jvm.ClassFile.FieldType.byte))).before args0 about1 = true := code_word (m := ⟨16, 3⟩) (meth := k16m3) (c := k16c3) (by decide +kernel) rfl rfl rfl (by decide +kernel)
set_option maxRecDepth 65536 in
theorem w_c40 : (Jvm.Cond.code ({ cls := "java/util/Arrays", name := "checkLength", desc := "(II)V" } : Jvm.MethodName) jdk_65_method_131_code (2 : Nat) (Option.none : Option Jvm.ClassFile.FieldType)).before args0 about1 = true := code_word (m := ⟨16, 1⟩) (meth := k16m1) (c := k16c1) (by decide +kernel) rfl rfl rfl (by decide +kernel)
set_option maxRecDepth 65536 in
theorem w_c41 : (Jvm.Cond.code ({ cls := "java/lang/Math", name := "min", desc := "(II)I" } : Jvm.MethodName) jdk_29_method_69_code (2 : Nat) (Option.some Jvm.ClassFile.FieldType.int)).before args0 about1 = true := code_word (m := ⟨17, 1⟩) (meth := k17m1) (c := k17c1) (by decide +kernel) rfl rfl rfl (by decide +kernel)
set_option maxRecDepth 65536 in
theorem w_c42 : (Jvm.Cond.code ({ cls := "java/lang/String", name := "<init>", desc := "([BB)V" } : Jvm.MethodName) jdk_42_method_151_code (3 : Nat) (Option.none : Option Jvm.ClassFile.FieldType)).before args0 about1 = true := code_word (m := ⟨7, 6⟩) (meth := k7m6) (c := k7c6) (by decide +kernel) rfl rfl rfl (by decide +kernel)
def codes1 : List Jvm.Cond := [Jvm.Cond.code x code maxLocals ret, Jvm.Cond.code ({ cls := "com/example/colophon/colophon/OpenIdsEndElementPinLaw", name := "mk", desc := "(II)Ljava/lang/String;" } : Jvm.MethodName) method_5_code (5 : Nat) (Option.some (Jvm.ClassFile.FieldType.object "java/lang/String")), Jvm.Cond.code ({ cls := "java/lang/String", name := "<init>", desc := "([C)V" } : Jvm.MethodName) jdk_42_method_3_code (2 : Nat) (Option.none : Option Jvm.ClassFile.FieldType), Jvm.Cond.code ({ cls := "java/lang/String", name := "<init>", desc := "([CIILjava/lang/Void;)V" } : Jvm.MethodName) jdk_42_method_149_code (6 : Nat) (Option.none : Option Jvm.ClassFile.FieldType), Jvm.Cond.code ({ cls := "java/lang/Object", name := "<init>", desc := "()V" } : Jvm.MethodName) object_method_1_code (1 : Nat) (Option.none : Option Jvm.ClassFile.FieldType), Jvm.Cond.code ({ cls := "java/lang/StringUTF16", name := "compress", desc := "([CII)[B" } : Jvm.MethodName) jdk_52_method_16_code (6 : Nat) (Option.some (Jvm.ClassFile.FieldType.array Jvm.ClassFile.FieldType.byte)), Jvm.Cond.code ({ cls := "java/lang/StringUTF16", name := "compress", desc := "([CI[BII)I" } : Jvm.MethodName) jdk_52_method_21_code (7 : Nat) (Option.some Jvm.ClassFile.FieldType.int), Jvm.Cond.code ({ cls := "java/lang/StringUTF16", name := "coderFromArrayLen", desc := "([BI)B" } : Jvm.MethodName) jdk_52_method_15_code (2 : Nat) (Option.some Jvm.ClassFile.FieldType.byte), Jvm.Cond.code ({ cls := "com/example/colophon/colophon/OpenIds", name := "<init>", desc := "()V" } : Jvm.MethodName) prog_28_method_1_code (1 : Nat) (Option.none : Option Jvm.ClassFile.FieldType), Jvm.Cond.code ({ cls := "java/lang/StringBuilder", name := "<init>", desc := "()V" } : Jvm.MethodName) jdk_67_method_1_code (1 : Nat) (Option.none : Option Jvm.ClassFile.FieldType), Jvm.Cond.code ({ cls := "java/lang/AbstractStringBuilder", name := "<init>", desc := "(I)V" } : Jvm.MethodName) jdk_68_method_2_code (2 : Nat) (Option.none : Option Jvm.ClassFile.FieldType), Jvm.Cond.code ({ cls := "com/example/colophon/colophon/OpenIds", name := "startElement", desc := "(ILjava/lang/String;)V" } : Jvm.MethodName) prog_28_method_2_code (3 : Nat) (Option.none : Option Jvm.ClassFile.FieldType), Jvm.Cond.code ({ cls := "java/lang/StringBuilder", name := "length", desc := "()I" } : Jvm.MethodName) jdk_67_method_93_code (1 : Nat) (Option.some Jvm.ClassFile.FieldType.int), Jvm.Cond.code ({ cls := "java/lang/AbstractStringBuilder", name := "length", desc := "()I" } : Jvm.MethodName) jdk_68_method_6_code (1 : Nat) (Option.some Jvm.ClassFile.FieldType.int), Jvm.Cond.code ({ cls := "java/lang/StringBuilder", name := "append", desc := "(Ljava/lang/String;)Ljava/lang/StringBuilder;" } : Jvm.MethodName) jdk_67_method_7_code (2 : Nat) (Option.some (Jvm.ClassFile.FieldType.object "java/lang/StringBuilder")), Jvm.Cond.code ({ cls := "java/lang/AbstractStringBuilder", name := "append", desc := "(Ljava/lang/String;)Ljava/lang/AbstractStringBuilder;" } : Jvm.MethodName) jdk_68_method_22_code (3 : Nat) (Option.some (Jvm.ClassFile.FieldType.object "java/lang/AbstractStringBuilder")), Jvm.Cond.code ({ cls := "java/lang/String", name := "length", desc := "()I" } : Jvm.MethodName) jdk_42_method_54_code (1 : Nat) (Option.some Jvm.ClassFile.FieldType.int), Jvm.Cond.code ({ cls := "java/lang/String", name := "coder", desc := "()B" } : Jvm.MethodName) jdk_42_method_152_code (1 : Nat) (Option.some Jvm.ClassFile.FieldType.byte), Jvm.Cond.code ({ cls := "java/lang/AbstractStringBuilder", name := "ensureCapacityInternal", desc := "(I)V" } : Jvm.MethodName) jdk_68_method_9_code (3 : Nat) (Option.none : Option Jvm.ClassFile.FieldType), Jvm.Cond.code ({ cls := "java/lang/AbstractStringBuilder", name := "putStringAt", desc := "(ILjava/lang/String;)V" } : Jvm.MethodName) jdk_68_method_73_code (3 : Nat) (Option.none : Option Jvm.ClassFile.FieldType), Jvm.Cond.code ({ cls := "java/lang/AbstractStringBuilder", name := "inflateIfNeededFor", desc := "(Ljava/lang/String;)V" } : Jvm.MethodName) jdk_68_method_71_code (2 : Nat) (Option.none : Option Jvm.ClassFile.FieldType), Jvm.Cond.code ({ cls := "java/lang/String", name := "getBytes", desc := "([BIB)V" } : Jvm.MethodName) jdk_42_method_147_code (4 : Nat) (Option.none : Option Jvm.ClassFile.FieldType), Jvm.Cond.code ({ cls := "com/example/colophon/colophon/OpenIds", name := "endElement", desc := "(I)V" } : Jvm.MethodName) prog_28_method_3_code (2 : Nat) (Option.none : Option Jvm.ClassFile.FieldType), Jvm.Cond.code ({ cls := "com/example/colophon/colophon/OpenIdsEndElementPinLaw", name := "state", desc := "(Lcom/example/colophon/colophon/OpenIds;ILjava/lang/String;Ljava/lang/String;II)Z" } : Jvm.MethodName) method_3_code (9 : Nat) (Option.some Jvm.ClassFile.FieldType.boolean), Jvm.Cond.code ({ cls := "com/example/colophon/colophon/OpenIds", name := "innermost", desc := "()Ljava/lang/String;" } : Jvm.MethodName) prog_28_method_4_code (1 : Nat) (Option.some (Jvm.ClassFile.FieldType.object "java/lang/String")), Jvm.Cond.code ({ cls := "com/example/colophon/colophon/OpenIdsEndElementPinLaw", name := "same", desc := "(Ljava/lang/String;Ljava/lang/String;)Z" } : Jvm.MethodName) method_4_code (2 : Nat) (Option.some Jvm.ClassFile.FieldType.boolean), Jvm.Cond.code ({ cls := "java/lang/String", name := "equals", desc := "(Ljava/lang/Object;)Z" } : Jvm.MethodName) jdk_42_method_66_code (3 : Nat) (Option.some Jvm.ClassFile.FieldType.boolean), Jvm.Cond.code ({ cls := "com/example/colophon/colophon/OpenIds", name := "length", desc := "()I" } : Jvm.MethodName) prog_28_method_5_code (1 : Nat) (Option.some Jvm.ClassFile.FieldType.int), Jvm.Cond.code ({ cls := "java/lang/StringBuilder", name := "setLength", desc := "(I)V" } : Jvm.MethodName) jdk_67_method_89_code (2 : Nat) (Option.none : Option Jvm.ClassFile.FieldType), Jvm.Cond.code ({ cls := "java/lang/AbstractStringBuilder", name := "setLength", desc := "(I)V" } : Jvm.MethodName) jdk_68_method_13_code (2 : Nat) (Option.none : Option Jvm.ClassFile.FieldType), Jvm.Cond.code ({ cls := "java/lang/StringBuilder", name := "substring", desc := "(I)Ljava/lang/String;" } : Jvm.MethodName) jdk_67_method_64_code (2 : Nat) (Option.some (Jvm.ClassFile.FieldType.object "java/lang/String")), Jvm.Cond.code ({ cls := "java/lang/AbstractStringBuilder", name := "substring", desc := "(I)Ljava/lang/String;" } : Jvm.MethodName) jdk_68_method_40_code (2 : Nat) (Option.some (Jvm.ClassFile.FieldType.object "java/lang/String")), Jvm.Cond.code ({ cls := "java/lang/StringBuilder", name := "substring", desc := "(II)Ljava/lang/String;" } : Jvm.MethodName) jdk_67_method_62_code (3 : Nat) (Option.some (Jvm.ClassFile.FieldType.object "java/lang/String")), Jvm.Cond.code ({ cls := "java/lang/AbstractStringBuilder", name := "substring", desc := "(II)Ljava/lang/String;" } : Jvm.MethodName) jdk_68_method_42_code (3 : Nat) (Option.some (Jvm.ClassFile.FieldType.object "java/lang/String")), Jvm.Cond.code ({ cls := "jdk/internal/util/Preconditions", name := "checkFromToIndex", desc := "(IIILjava/util/function/BiFunction;)I" } : Jvm.MethodName) jdk_41_method_12_code (4 : Nat) (Option.some Jvm.ClassFile.FieldType.int), Jvm.Cond.code ({ cls := "java/lang/AbstractStringBuilder", name := "isLatin1", desc := "()Z" } : Jvm.MethodName) jdk_68_method_68_code (1 : Nat) (Option.some Jvm.ClassFile.FieldType.boolean), Jvm.Cond.code ({ cls := "java/lang/StringLatin1", name := "newString", desc := "([BII)Ljava/lang/String;" } : Jvm.MethodName) jdk_43_method_47_code (3 : Nat) (Option.some (Jvm.ClassFile.FieldType.object "java/lang/String")), Jvm.Cond.code ({ cls := "java/lang/StringLatin1", name := "equals", desc := "([B[B)Z" } : Jvm.MethodName) jdk_43_method_13_code (3 : Nat) (Option.some Jvm.ClassFile.FieldType.boolean), Jvm.Cond.code ({ cls := "java/util/Arrays", name := "copyOfRange", desc := "([BII)[B" } : Jvm.MethodName) jdk_65_method_132_code (3 : Nat) (Option.some (Jvm.ClassFile.FieldType.array Jvm.ClassFile.FieldType.byte)), Jvm.Cond.code ({ cls := "java/util/Arrays", name := "copyOfRangeByte", desc := "([BII)[B" } : Jvm.MethodName) jdk_65_method_133_code (5 : Nat) (Option.some (Jvm.ClassFile.FieldType.array Jvm.ClassFile.FieldType.byte)), Jvm.Cond.code ({ cls := "java/util/Arrays", name := "checkLength", desc := "(II)V" } : Jvm.MethodName) jdk_65_method_131_code (2 : Nat) (Option.none : Option Jvm.ClassFile.FieldType), Jvm.Cond.code ({ cls := "java/lang/Math", name := "min", desc := "(II)I" } : Jvm.MethodName) jdk_29_method_69_code (2 : Nat) (Option.some Jvm.ClassFile.FieldType.int), Jvm.Cond.code ({ cls := "java/lang/String", name := "<init>", desc := "([BB)V" } : Jvm.MethodName) jdk_42_method_151_code (3 : Nat) (Option.none : Option Jvm.ClassFile.FieldType)]
set_option maxRecDepth 65536 in
theorem codes_eq : words1.filter isCode = codes1 := rfl
theorem w_codes : ∀ c ∈ words1.filter isCode, c.before args0 about1 = true := by
  rw [codes_eq]
  intro c hc
  simp only [codes1, List.mem_cons, List.not_mem_nil, or_false] at hc
  rcases hc with rfl | rfl | rfl | rfl | rfl | rfl | rfl | rfl | rfl | rfl | rfl | rfl | rfl | rfl | rfl | rfl | rfl | rfl | rfl | rfl | rfl | rfl | rfl | rfl | rfl | rfl | rfl | rfl | rfl | rfl | rfl | rfl | rfl | rfl | rfl | rfl | rfl | rfl | rfl | rfl | rfl | rfl | rfl
  · exact w_c0
  · exact w_c1
  · exact w_c2
  · exact w_c3
  · exact w_c4
  · exact w_c5
  · exact w_c6
  · exact w_c7
  · exact w_c8
  · exact w_c9
  · exact w_c10
  · exact w_c11
  · exact w_c12
  · exact w_c13
  · exact w_c14
  · exact w_c15
  · exact w_c16
  · exact w_c17
  · exact w_c18
  · exact w_c19
  · exact w_c20
  · exact w_c21
  · exact w_c22
  · exact w_c23
  · exact w_c24
  · exact w_c25
  · exact w_c26
  · exact w_c27
  · exact w_c28
  · exact w_c29
  · exact w_c30
  · exact w_c31
  · exact w_c32
  · exact w_c33
  · exact w_c34
  · exact w_c35
  · exact w_c36
  · exact w_c37
  · exact w_c38
  · exact w_c39
  · exact w_c40
  · exact w_c41
  · exact w_c42
set_option maxRecDepth 65536 in
theorem w_t1 : (words1.take 24).all (fun c => isCode c || c.before args0 about1) = true := by decide +kernel
set_option maxRecDepth 65536 in
theorem w_t2 : ((words1.drop 24).take 24).all (fun c => isCode c || c.before args0 about1) = true := by decide +kernel
set_option maxRecDepth 65536 in
theorem w_t3 : (((words1.drop 24).drop 24).take 24).all (fun c => isCode c || c.before args0 about1) = true := by decide +kernel
set_option maxRecDepth 65536 in
theorem w_t4 : ((((words1.drop 24).drop 24).drop 24).take 24).all (fun c => isCode c || c.before args0 about1) = true := by decide +kernel
set_option maxRecDepth 65536 in
theorem w_t5 : (((((words1.drop 24).drop 24).drop 24).drop 24).take 24).all (fun c => isCode c || c.before args0 about1) = true := by decide +kernel
set_option maxRecDepth 65536 in
theorem w_t6 : ((((((words1.drop 24).drop 24).drop 24).drop 24).drop 24).take 24).all (fun c => isCode c || c.before args0 about1) = true := by decide +kernel
set_option maxRecDepth 65536 in
theorem w_t7 : (((((((words1.drop 24).drop 24).drop 24).drop 24).drop 24).drop 24).take 24).all (fun c => isCode c || c.before args0 about1) = true := by decide +kernel
set_option maxRecDepth 65536 in
theorem w_t8 : ((((((((words1.drop 24).drop 24).drop 24).drop 24).drop 24).drop 24).drop 24).take 24).all (fun c => isCode c || c.before args0 about1) = true := by decide +kernel
set_option maxRecDepth 65536 in
theorem w_t9 : (((((((((words1.drop 24).drop 24).drop 24).drop 24).drop 24).drop 24).drop 24).drop 24).take 24).all (fun c => isCode c || c.before args0 about1) = true := by decide +kernel
set_option maxRecDepth 65536 in
theorem w_t10 : (((((((((words1.drop 24).drop 24).drop 24).drop 24).drop 24).drop 24).drop 24).drop 24).drop 24).all (fun c => isCode c || c.before args0 about1) = true := by decide +kernel
theorem w_tables : (allAtoms (Jvm.Cond.code x code maxLocals ret :: tables_1)).before args0 about1 = true := by
  rw [allAtoms_all]
  show words1.all (fun c => c.before args0 about1) = true
  refine all_split ?_ w_codes
  rw [← List.take_append_drop 24 words1, List.all_append, w_t1, ← List.take_append_drop 24 (words1.drop 24), List.all_append, w_t2, ← List.take_append_drop 24 ((words1.drop 24).drop 24), List.all_append, w_t3, ← List.take_append_drop 24 (((words1.drop 24).drop 24).drop 24), List.all_append, w_t4, ← List.take_append_drop 24 ((((words1.drop 24).drop 24).drop 24).drop 24), List.all_append, w_t5, ← List.take_append_drop 24 (((((words1.drop 24).drop 24).drop 24).drop 24).drop 24), List.all_append, w_t6, ← List.take_append_drop 24 ((((((words1.drop 24).drop 24).drop 24).drop 24).drop 24).drop 24), List.all_append, w_t7, ← List.take_append_drop 24 (((((((words1.drop 24).drop 24).drop 24).drop 24).drop 24).drop 24).drop 24), List.all_append, w_t8, ← List.take_append_drop 24 ((((((((words1.drop 24).drop 24).drop 24).drop 24).drop 24).drop 24).drop 24).drop 24), List.all_append, w_t9, w_t10]
  rfl
set_option maxRecDepth 65536 in
theorem w_rest : rest_1_c.before args0 about1 = true := by decide +kernel
set_option maxRecDepth 65536 in
theorem w_case : (Jvm.Cond.and given_1 narrow_1).before args0 about1 = true := by decide +kernel
set_option maxRecDepth 65536 in
theorem w_consts : constsHeld consts_1 about1 := Jvm.Lit.constsHeldB_iff.mp (by decide +kernel)
theorem w_applies : (headSpec (Jvm.Cond.code x code maxLocals ret :: tables_1) room_1).applies x e0.platform about1 = true :=
  (Spec.applies_iff w_frames).mpr ⟨w_running, w_runnable, w_alone, w_named, w_hears, w_ripe, w_room, w_tables⟩
theorem atStart : AtStart classFile x code maxLocals ret World_1 tables_1 room_1 Calls_1 rest_1 Pre_1 launch0 p0 e0 about1 theMethod args0 below0 :=
  ⟨lists_1, trivial, launch0.admits_env _ _ _, launch0.least_env, fairChoices_fair.cas, fairChoices_fair.clock, w_frames, w_args, w_heap, w_applies, ⟨w_consts, trivial⟩, w_rest, w_case⟩
end start1
theorem witness_1 : WitnessClaimed_1 := ⟨start1.p0, start1.e0, start1.about1, start1.theMethod, start1.args0, start1.below0, start1.atStart⟩
end Jvm.Pilot.@@N@@
