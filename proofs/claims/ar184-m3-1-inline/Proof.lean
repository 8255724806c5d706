import JvmDerived
import JvmDerived.Pilot.@@N@@Statement
import JvmDerived.Pilot.@@N@@Code
set_option linter.unusedVariables false
set_option linter.unusedSimpArgs false
namespace Jvm.Own
open Jvm Jvm.ClassFile Sem Op Lib Jvm.Free Jvm.Stand Jvm.LawKit Jvm.RoadKit Bundle
/-! A small calculus on the road kit: Go says that from here the body comes to its end. -/
section Calc
variable {wd : Bool} {Z : State} {a0 : Array Value} {EL : List (String × Nat)} {p : Program} {l : Launch} {e : Env} {R : Room} {s : State} {m : MethodId} {args : Array Value} {below : List Frame} {meth : Method} {c : Code}
  {n0 C N : Nat} {Q : Option Value → Heap → Prop} {vm : Vm} {h : Heap} {cells slots : Nat} {g : JFrame} {own : String} {bytes : ByteArray} {ml : Nat} {ret : Option FieldType} {nm : String}
/-- what is known of the body walked -/
def Ctx (Z : State) (a0 : Array Value) (EL : List (String × Nat)) (p : Program) (m : MethodId) (meth : Method) (c : Code) (own : String) (bytes : ByteArray) (ml : Nat) (ret : Option FieldType) (nm : String) : Prop :=
  p.tables.exec = Jvm.exec ∧ c.code = bytes ∧ c.maxLocals = ml ∧ meth.sig.returnType = ret ∧ meth.locks = false ∧ Z.vm.findClass own = some m.cls ∧ meth.name = nm ∧ EW Z a0 EL
/-- the tables at hand -/
def Wt (wd : Bool) (Z : State) (EL : List (String × Nat)) (s : State) (vm : Vm) (h : Heap) : Prop :=
  Z.Warmed39 vm ∧ (∃ k0, s.Since vm k0 ∧ k0 ≤ h.size) ∧ CHr Z EL s.vm s.heap vm h ∧ (wd = false → vm = s.vm ∧ EL = [])
def Fin (wd : Bool) (Z : State) (EL : List (String × Nat)) (n0 C N : Nat) (Q : Option Value → Heap → Prop) (s : State) (o : Outcome) (t : State) : Prop :=
  ∃ v L, o = .returned v ∧ (Q v t.heap ∧ Fr n0 L) ∧ CHr Z EL s.vm s.heap t.vm t.heap ∧ ReturnedEndW s o t L C N ∧ (wd = false → FrameEnd s o t L C N)
def Go (wd : Bool) (Z : State) (EL : List (String × Nat)) (p : Program) (l : Launch) (e : Env) (R : Room) (s : State) (m : MethodId) (args : Array Value) (below : List Frame) (meth : Method) (c : Code)
    (n0 C N : Nat) (Q : Option Value → Heap → Prop) (vm : Vm) (h : Heap) (cells slots : Nat) (g : JFrame) : Prop :=
  Wt wd Z EL s vm h → ∀ (T : State) (locs : List Loc), Stand p l e R (s.setVm vm) m args below meth c T locs cells slots → T.heap = h → Fr n0 locs →
    ∃ s₂ o, Steps p.tables e below (T.setTop g) s₂ ∧ s₂.status = .running ∧ Ended s₂ below o ∧ Fin wd Z EL n0 C N Q s o s₂
theorem Ctx.fc (B : Ctx Z a0 EL p m meth c own bytes ml ret nm) (hZ : Z.Warmed39 vm) : (s.setVm vm).vm.findClass own = some m.cls := by
  rw [show (s.setVm vm).vm = vm from rfl, hZ.alike.findClass]; exact B.2.2.2.2.2.1
theorem Ctx.x (B : Ctx Z a0 EL p m meth c own bytes ml ret nm) : p.tables.exec = Jvm.exec := B.1
theorem Ctx.d (B : Ctx Z a0 EL p m meth c own bytes ml ret nm) {pc : Nat} {r : Except DecodeError (Instr × Nat)} (q : decode bytes pc = r) : decode c.code pc = r := B.2.1 ▸ q
theorem nos {x : Addr} : Safe Z [] vm h x := fun B => by obtain ⟨p, hp, -⟩ := B; cases hp
/-- one plain step -/
theorem gs (g' : JFrame) (hs : ∀ T, At T m c below → ∀ t, Steps p.tables e below (T.setTop g') t → Steps p.tables e below (T.setTop g) t)
    (k : Go wd Z EL p l e R s m args below meth c n0 C N Q vm h cells slots g') : Go wd Z EL p l e R s m args below meth c n0 C N Q vm h cells slots g := by
  intro W T locs X eT F
  obtain ⟨s₂, o, h1, r⟩ := k W T locs X eT F
  exact ⟨s₂, o, hs T X.here _ h1, r⟩
theorem gj (g' : JFrame) (k1 : Go wd Z EL p l e R s m args below meth c n0 C N Q vm h cells slots g') (k : Go wd Z EL p l e R s m args below meth c n0 C N Q vm h cells slots g' → Go wd Z EL p l e R s m args below meth c n0 C N Q vm h cells slots g) :
    Go wd Z EL p l e R s m args below meth c n0 C N Q vm h cells slots g := k k1
theorem gm {cells' slots' : Nat} (hc : cells ≤ cells') (hl : slots ≤ slots') (k : Go wd Z EL p l e R s m args below meth c n0 C N Q vm h cells' slots' g) : Go wd Z EL p l e R s m args below meth c n0 C N Q vm h cells slots g :=
  fun W T locs X eT F => k W T locs (X.more hc hl) eT F
/-- a step that leaves the heap, and may warm the tables -/
theorem g_same {g' : JFrame} (hs : ∀ T locs, Z.Warmed39 vm → Stand p l e R (s.setVm vm) m args below meth c T locs cells slots → T.heap = h → ∃ T', Stand p l e R (s.setVm vm) m args below meth c T' locs cells slots ∧ T'.heap = h ∧ ∀ target, Steps p.tables e below (T'.setTop g') target → Steps p.tables e below (T.setTop g) target)
    (k : Go wd Z EL p l e R s m args below meth c n0 C N Q vm h cells slots g') : Go wd Z EL p l e R s m args below meth c n0 C N Q vm h cells slots g := by
  intro W T locs X eT F
  obtain ⟨T', X', eT', st⟩ := hs T locs W.1 X eT
  obtain ⟨s₂, o, h1, r⟩ := k W T' locs X' eT' F
  exact ⟨s₂, o, st _ h1, r⟩
theorem Wt.ext {h' : Heap} (W : Wt wd Z EL s vm h) (E : Ext h h') : Wt wd Z EL s vm h' := by
  obtain ⟨h1, ⟨k0, h2, h3⟩, h4, h5⟩ := W
  exact ⟨h1, ⟨k0, h2, Nat.le_trans h3 E.1⟩, h4.trans (CHr.ext E h4.1), h5⟩
theorem Wt.wr {h' : Heap} {a : Addr} {sl : Nat} {v : Value} (W : Wt wd Z EL s vm h) (S : Safe Z EL vm h a) (E : Wr h h' a sl v) : Wt wd Z EL s vm h' := by
  obtain ⟨h1, ⟨k0, h2, h3⟩, h4, h5⟩ := W
  exact ⟨h1, ⟨k0, h2, by rw [E.size]; exact h3⟩, h4.trans (CHr.wr E S h4.1), h5⟩
theorem Wt.keep {h' : Heap} {ws : List Addr} (W : Wt wd Z EL s vm h) (S : ∀ x ∈ ws, Safe Z EL vm h x) (K : Keep h h' ws) : Wt wd Z EL s vm h' := by
  obtain ⟨h1, ⟨k0, h2, h3⟩, h4, h5⟩ := W
  exact ⟨h1, ⟨k0, h2, Nat.le_trans h3 K.1⟩, h4.trans (CHr.keep K S h4.1), h5⟩
/-- a step that makes a cell -/
theorem g_ext {cells' slots' : Nat} {P : Heap → Prop} {G : JFrame} (hs : ∀ T locs, Z.Warmed39 vm → Stand p l e R (s.setVm vm) m args below meth c T locs cells slots → T.heap = h → ∃ T' h', Stand p l e R (s.setVm vm) m args below meth c T' locs cells' slots' ∧ T'.heap = h' ∧ Ext h h' ∧ P h' ∧ ∀ target, Steps p.tables e below (T'.setTop G) target → Steps p.tables e below (T.setTop g) target)
    (k : ∀ h', Ext h h' → P h' → Go wd Z EL p l e R s m args below meth c n0 C N Q vm h' cells' slots' G) : Go wd Z EL p l e R s m args below meth c n0 C N Q vm h cells slots g := by
  intro W T locs X eT F
  obtain ⟨T', h', X', eT', E, hP, st⟩ := hs T locs W.1 X eT
  obtain ⟨s₂, o, h1, r⟩ := k h' E hP (W.ext E) T' locs X' eT' F
  exact ⟨s₂, o, st _ h1, r⟩
/-- a step that writes one place -/
theorem g_wr {a : Addr} {sl : Nat} {v : Value} {G : JFrame} (hs : ∀ T locs, Z.Warmed39 vm → Stand p l e R (s.setVm vm) m args below meth c T locs cells slots → T.heap = h → ∃ T' h', Stand p l e R (s.setVm vm) m args below meth c T' (locs ++ [⟨a, sl⟩]) cells slots ∧ T'.heap = h' ∧ Wr h h' a sl v ∧ ∀ target, Steps p.tables e below (T'.setTop G) target → Steps p.tables e below (T.setTop g) target)
    (S : Safe Z EL vm h a) (q : n0 ≤ a) (k : ∀ h', Wr h h' a sl v → Go wd Z EL p l e R s m args below meth c n0 C N Q vm h' cells slots G) : Go wd Z EL p l e R s m args below meth c n0 C N Q vm h cells slots g := by
  intro W T locs X eT F
  obtain ⟨T', h', X', eT', E, st⟩ := hs T locs W.1 X eT
  obtain ⟨s₂, o, h1, r⟩ := k h' E (W.wr S E) T' _ X' eT' (Fr.snoc X' F q)
  exact ⟨s₂, o, st _ h1, r⟩
theorem gjA {α : Type} (F : α → JFrame) (P : α → Prop) (k1 : ∀ x, P x → Go wd Z EL p l e R s m args below meth c n0 C N Q vm h cells slots (F x)) (k : (∀ x, P x → Go wd Z EL p l e R s m args below meth c n0 C N Q vm h cells slots (F x)) → Go wd Z EL p l e R s m args below meth c n0 C N Q vm h cells slots g) :
    Go wd Z EL p l e R s m args below meth c n0 C N Q vm h cells slots g := k k1
theorem gjA3 {α β γ : Type} (F : α → β → γ → JFrame) (P : α → β → γ → Prop) (k1 : ∀ x y z, P x y z → Go wd Z EL p l e R s m args below meth c n0 C N Q vm h cells slots (F x y z)) (k : (∀ x y z, P x y z → Go wd Z EL p l e R s m args below meth c n0 C N Q vm h cells slots (F x y z)) → Go wd Z EL p l e R s m args below meth c n0 C N Q vm h cells slots g) :
    Go wd Z EL p l e R s m args below meth c n0 C N Q vm h cells slots g := k k1
theorem g_wt (k : Wt wd Z EL s vm h → Go wd Z EL p l e R s m args below meth c n0 C N Q vm h cells slots g) : Go wd Z EL p l e R s m args below meth c n0 C N Q vm h cells slots g := fun W => k W W
variable {pc q : Nat} {Ls : Array Slot} {st : List Value}
theorem g_newO {K : String} {index n : Nat} (B : Ctx Z a0 EL p m meth c own bytes ml ret nm) (w : (Cond.classLink own index K).before a0 Z = true) (wi : (Cond.instantiable K n).before a0 Z = true) (wz : (Cond.initialized K).before a0 Z = true)
    (hd : decode bytes pc = .ok (.new index, 3)) (hc : cells + 1 ≤ R.cells) (hl : slots + n ≤ R.slots) (hq : pc + 3 = q)
    (k : ∀ (h' : Heap) (a : Addr), @Eq Nat a h.size → Ext h h' → Safe Z EL vm h' a → Exa Z h' a K → (∀ {O nm d : String} {ty : FieldType}, Laid Z a0 K O nm d → parseFieldDescriptor d = some ty → Fld Z h' a O nm d (defaultValue ty)) →
      Go wd Z EL p l e R s m args below meth c n0 C N Q vm h' (cells + 1) (slots + n) (mkF m q Ls (.ref a :: st))) :
    Go wd Z EL p l e R s m args below meth c n0 C N Q vm h cells slots (mkF m pc Ls st) := by
  subst hq
  intro W
  refine g_ext (cells' := cells + 1) (slots' := slots + n) (G := mkF m (pc + 3) Ls (.ref h.size :: st)) (P := fun h' => Exa Z h' h.size K ∧ (∀ {O nm d : String} {ty : FieldType}, Laid Z a0 K O nm d → parseFieldDescriptor d = some ty → Fld Z h' h.size O nm d (defaultValue ty))) (fun T locs hZ X eT => ?_) (fun h' E P => k h' h.size rfl E (Safe.ext E W.2.2.1.1 (Safe.new (Nat.le_refl _))) P.1 P.2) W
  obtain ⟨T', h', X', e', E', A', D', -, st'⟩ := newO X B.1 (show Z.Warmed39 (s.setVm vm).vm from hZ) (B.fc hZ) w wi wz eT (g := mkF m pc Ls st) rfl (B.d hd) hc hl
  exact ⟨T', h', X', e', E', ⟨A', D'⟩, st'⟩
theorem g_newP {aty : ArrayType} {n : Int32} (B : Ctx Z a0 EL p m meth c own bytes ml ret nm) (w : (Cond.arrayClass (newarray.typeOf aty)).before a0 Z = true)
    (hd : decode bytes pc = .ok (.newarray aty, 2)) (hn : ¬ n < 0) {cap : Nat} (hcap : n.toNatClampNeg ≤ cap) (hb : cap * 8 ≤ 536870912) (hc : cells + 1 ≤ R.cells) (hl : slots + cap ≤ R.slots) (hq : pc + 2 = q)
    (k : ∀ (h' : Heap) (a : Addr) (kA : ClassId), @Eq Nat a h.size → Ext h h' → Safe Z EL vm h' a → Arv Z h' a kA (newarray.typeOf aty) n (List.replicate n.toNatClampNeg (defaultValue (newarray.typeOf aty))) (defaultValue (newarray.typeOf aty)) →
      Go wd Z EL p l e R s m args below meth c n0 C N Q vm h' (cells + 1) (slots + cap) (mkF m q Ls (.ref a :: st))) :
    Go wd Z EL p l e R s m args below meth c n0 C N Q vm h cells slots (mkF m pc Ls (.int n :: st)) := by
  subst hq
  intro W
  refine g_ext (cells' := cells + 1) (slots' := slots + cap) (G := mkF m (pc + 2) Ls (.ref h.size :: st)) (P := fun h' => ∃ kA, Arr Z h' h.size (newA kA (newarray.typeOf aty) n) (newarray.typeOf aty)) (fun T locs hZ X eT => ?_) (fun h' E P => ?_) W
  · obtain ⟨T', h', kA, X', e', E', A', st'⟩ := newP X B.1 (show Z.Warmed39 (s.setVm vm).vm from hZ) w eT (g := mkF m pc Ls (.int n :: st)) rfl (B.d hd) rfl hn hcap hb hc hl
    exact ⟨T', h', X', e', E', ⟨kA, A'⟩, st'⟩
  · obtain ⟨kA, A⟩ := P
    exact k h' h.size kA rfl E (Safe.ext E W.2.2.1.1 (Safe.new (Nat.le_refl _))) ((Arv.new A hn).pad (pad_rep [] _ _))
theorem g_newR {K : String} {index : Nat} {n : Int32} (B : Ctx Z a0 EL p m meth c own bytes ml ret nm) (w1 : (Cond.classLink own index K).before a0 Z = true) (w2 : (Cond.arrayOver (.object K)).before a0 Z = true)
    (hd : decode bytes pc = .ok (.anewarray index, 3)) (hn : ¬ n < 0) {cap : Nat} (hcap : n.toNatClampNeg ≤ cap) (hb : cap * 8 ≤ 536870912) (hc : cells + 1 ≤ R.cells) (hl : slots + cap ≤ R.slots) (hq : pc + 3 = q)
    (k : ∀ (h' : Heap) (a : Addr) (kA : ClassId), @Eq Nat a h.size → Ext h h' → Safe Z EL vm h' a → Ovr Z kA K → Arv Z h' a kA (.object K) n (List.replicate n.toNatClampNeg .null) .null →
      Go wd Z EL p l e R s m args below meth c n0 C N Q vm h' (cells + 1) (slots + cap) (mkF m q Ls (.ref a :: st))) :
    Go wd Z EL p l e R s m args below meth c n0 C N Q vm h cells slots (mkF m pc Ls (.int n :: st)) := by
  subst hq
  intro W
  refine g_ext (cells' := cells + 1) (slots' := slots + cap) (G := mkF m (pc + 3) Ls (.ref h.size :: st)) (P := fun h' => ∃ kA, Arr Z h' h.size (newA kA (.object K) n) (.object K) ∧ Ovr Z kA K) (fun T locs hZ X eT => ?_) (fun h' E P => ?_) W
  · obtain ⟨T', h', kA, X', e', E', A', O', st'⟩ := newR X B.1 (show Z.Warmed39 (s.setVm vm).vm from hZ) (B.fc hZ) w1 w2 eT (g := mkF m pc Ls (.int n :: st)) rfl (B.d hd) rfl hn hcap hb hc hl
    exact ⟨T', h', X', e', E', ⟨kA, A', O'⟩, st'⟩
  · obtain ⟨kA, A, O⟩ := P
    exact k h' h.size kA rfl E (Safe.ext E W.2.2.1.1 (Safe.new (Nat.le_refl _))) O ((Arv.new A hn).pad (pad_rep [] _ _))
theorem g_getF {R0 O n d : String} {index : Nat} {a : Addr} {v : Value} (B : Ctx Z a0 EL p m meth c own bytes ml ret nm) (w : (Cond.fieldLink own index R0 n d).before a0 Z = true) (via : Via Z R0 O n d) (F : Fld Z h a O n d v)
    (hd : decode bytes pc = .ok (.getfield index, 3)) (hq : pc + 3 = q) (k : Go wd Z EL p l e R s m args below meth c n0 C N Q vm h cells slots (mkF m q Ls (v :: st))) :
    Go wd Z EL p l e R s m args below meth c n0 C N Q vm h cells slots (mkF m pc Ls (.ref a :: st)) := by
  subst hq
  exact g_same (fun T locs hZ X eT => getF X B.1 (show Z.Warmed39 (s.setVm vm).vm from hZ) (B.fc hZ) (host := "") (Or.inl w) via eT F (g := mkF m pc Ls (.ref a :: st)) rfl rfl (B.d hd)) k
theorem g_getS {O n d : String} {index : Nat} {v : Value} (B : Ctx Z a0 EL p m meth c own bytes ml ret nm) (w : (Cond.fieldLink own index O n d).before a0 Z = true) (F : Sta Z h O n d v)
    (hd : decode bytes pc = .ok (.getstatic index, 3)) (hq : pc + 3 = q) (k : Go wd Z EL p l e R s m args below meth c n0 C N Q vm h cells slots (mkF m q Ls (v :: st))) :
    Go wd Z EL p l e R s m args below meth c n0 C N Q vm h cells slots (mkF m pc Ls st) := by
  subst hq
  exact g_same (fun T locs hZ X eT => getS X B.1 (show Z.Warmed39 (s.setVm vm).vm from hZ) (host := "") (B.fc hZ) w Via.refl eT F (g := mkF m pc Ls st) rfl (B.d hd)) k
theorem g_cast {K : String} {index : Nat} {a : Addr} (B : Ctx Z a0 EL p m meth c own bytes ml ret nm) (w : (Cond.classLink own index K).before a0 Z = true) (F : Ins Z h a K true)
    (hd : decode bytes pc = .ok (.checkcast index, 3)) (hq : pc + 3 = q) (k : Go wd Z EL p l e R s m args below meth c n0 C N Q vm h cells slots (mkF m q Ls (.ref a :: st))) :
    Go wd Z EL p l e R s m args below meth c n0 C N Q vm h cells slots (mkF m pc Ls (.ref a :: st)) := by
  subst hq
  exact g_same (fun T locs hZ X eT => castY X B.1 (show Z.Warmed39 (s.setVm vm).vm from hZ) (B.fc hZ) w eT F (g := mkF m pc Ls (.ref a :: st)) rfl rfl (B.d hd)) k
theorem g_inst {K : String} {index : Nat} {a : Addr} (B : Ctx Z a0 EL p m meth c own bytes ml ret nm) (w : (Cond.classLink own index K).before a0 Z = true) (F : Ins Z h a K true)
    (hd : decode bytes pc = .ok (.instanceof index, 3)) (hq : pc + 3 = q) (k : Go wd Z EL p l e R s m args below meth c n0 C N Q vm h cells slots (mkF m q Ls (.int 1 :: st))) :
    Go wd Z EL p l e R s m args below meth c n0 C N Q vm h cells slots (mkF m pc Ls (.ref a :: st)) := by
  subst hq
  exact g_same (fun T locs hZ X eT => instY X B.1 (show Z.Warmed39 (s.setVm vm).vm from hZ) (B.fc hZ) w eT F (g := mkF m pc Ls (.ref a :: st)) rfl rfl (B.d hd)) k
theorem g_initO {idx : Nat} {a : Addr} {W : Nat} (B : Ctx Z a0 EL p m meth c own bytes ml ret nm) (w1 : (Cond.methodLink own idx Lib.objectInit).before a0 Z = true) (w2 : (Cond.instanceMethod Lib.objectInit).before a0 Z = true) (w3 : (Cond.code Lib.objectInit ⟨#[0xb1]⟩ 1 none).before a0 Z = true)
    (hs : Ls.size = ml) (hd : decode bytes pc = .ok (.invokespecial idx, 3)) (hf : 1 ≤ R.frames) (hW : (st.map fun v => v.category).sum ≤ W) (hl : W + 12 ≤ R.locals) (hq : pc + 3 = q)
    (k : Go wd Z EL p l e R s m args below meth c n0 C N Q vm h cells slots (mkF m q Ls st)) :
    Go wd Z EL p l e R s m args below meth c n0 C N Q vm h cells slots (mkF m pc Ls (.ref a :: st)) := by
  subst hq
  exact g_same (fun T locs hZ X eT => initO X B.1 (show Z.Warmed39 (s.setVm vm).vm from hZ) (B.fc hZ) w1 w2 w3 eT (g := mkF m pc Ls (.ref a :: st)) rfl (hs.trans B.2.2.1.symm) rfl (B.d hd) hf (W := W) (by show 2 * 0 + _ ≤ W; omega) hl) k
theorem g_putF {R0 O n d K : String} {index kk : Nat} {ty : FieldType} {a : Addr} {v old : Value} (B : Ctx Z a0 EL p m meth c own bytes ml ret nm) (w : (Cond.fieldLink own index R0 n d).before a0 Z = true) (via : Via Z R0 O n d) (F : Fld Z h a O n d old) (E : Exa Z h a K)
    (L : (Cond.lays K O n d).before a0 Z = true ∨ ((Cond.laysFinal K O n d).before a0 Z = true ∧ own = O ∧ nm = "<init>")) (wi : (Cond.instantiable K kk).before a0 Z = true) (hty : parseFieldDescriptor d = some ty) (hn : narrow ty v = v) (hf : fits ty v = true)
    (hd : decode bytes pc = .ok (.putfield index, 3)) (S : Safe Z EL vm h a) (g0 : n0 ≤ a) (hq : pc + 3 = q) (k : ∀ h', Wr h h' a (Jvm.RoadKit.slotOf Z O n d) v → Fld Z h' a O n d v → Go wd Z EL p l e R s m args below meth c n0 C N Q vm h' cells slots (mkF m q Ls st)) :
    Go wd Z EL p l e R s m args below meth c n0 C N Q vm h cells slots (mkF m pc Ls (v :: .ref a :: st)) := by
  subst hq
  refine g_wr (fun T locs hZ X eT => putF X B.1 (show Z.Warmed39 (s.setVm vm).vm from hZ) (B.fc hZ) (host := "") (Or.inl w) via eT F E (L.imp id fun z => ⟨z.1, z.2.1, B.2.2.2.2.2.2.1.trans z.2.2⟩) wi hty hn hf (g := mkF m pc Ls (v :: .ref a :: st)) rfl rfl (B.d hd)) S g0 fun h' W => k h' W (F.same W)
theorem g_putFN {R0 O n d K : String} {index kk : Nat} {ty : FieldType} {a : Addr} {v v' old : Value} (B : Ctx Z a0 EL p m meth c own bytes ml ret nm) (w : (Cond.fieldLink own index R0 n d).before a0 Z = true) (via : Via Z R0 O n d) (F : Fld Z h a O n d old) (E : Exa Z h a K)
    (L : (Cond.lays K O n d).before a0 Z = true ∨ ((Cond.laysFinal K O n d).before a0 Z = true ∧ own = O ∧ nm = "<init>")) (wi : (Cond.instantiable K kk).before a0 Z = true) (hty : parseFieldDescriptor d = some ty) (hn : narrow ty v = v') (hf : fits ty v' = true)
    (hd : decode bytes pc = .ok (.putfield index, 3)) (S : Safe Z EL vm h a) (g0 : n0 ≤ a) (hq : pc + 3 = q) (k : ∀ h', Wr h h' a (Jvm.RoadKit.slotOf Z O n d) v' → Fld Z h' a O n d v' → Go wd Z EL p l e R s m args below meth c n0 C N Q vm h' cells slots (mkF m q Ls st)) :
    Go wd Z EL p l e R s m args below meth c n0 C N Q vm h cells slots (mkF m pc Ls (v :: .ref a :: st)) := by
  subst hq
  refine g_wr (fun T locs hZ X eT => putFN X B.1 (show Z.Warmed39 (s.setVm vm).vm from hZ) (B.fc hZ) w via eT F E (L.imp id fun z => ⟨z.1, z.2.1, B.2.2.2.2.2.2.1.trans z.2.2⟩) wi hty hn hf (g := mkF m pc Ls (v :: .ref a :: st)) rfl rfl (B.d hd)) S g0 fun h' W => k h' W (F.same W)
section Arrays
variable {a : Addr} {kA : ClassId} {z j x : Int32} {x64 : Int64} {vs : List Value} {dv v : Value} {i : Nat} {ty : FieldType}
theorem g_stC (B : Ctx Z a0 EL p m meth c own bytes ml ret nm) (A : Arv Z h a kA .char z vs dv) {x' : Int32} (hx' : nar .char x = x') (hj : ¬ j < 0 ∧ j < z) (hi : j.toNatClampNeg = i) (hl : i < vs.length) (hd : decode bytes pc = .ok (.castore, 1)) (S : Safe Z EL vm h a) (g0 : n0 ≤ a) (hq : pc + 1 = q)
    (k : ∀ h', Wr h h' a j.toNatClampNeg (.int x') → Arv Z h' a kA .char z (vs.set i (.int x')) dv → Go wd Z EL p l e R s m args below meth c n0 C N Q vm h' cells slots (mkF m q Ls st)) :
    Go wd Z EL p l e R s m args below meth c n0 C N Q vm h cells slots (mkF m pc Ls (.int x :: .int j :: .ref a :: st)) := by
  subst hq hx'
  obtain ⟨cl, A1, A2, A3, A4, A5, A6⟩ := A
  exact g_wr (fun T locs hZ X eT => stC X B.1 (show Z.Warmed39 (s.setVm vm).vm from hZ) eT A1 (inb_of A3 hj) (g := mkF m pc Ls (.int x :: .int j :: .ref a :: st)) rfl rfl (B.d hd)) S g0 fun h' W => k h' W (Arv.set A1 A2 A3 A4 A5 A6 (fits_nar_char _) W i hi hl)
theorem g_stB (B : Ctx Z a0 EL p m meth c own bytes ml ret nm) (A : Arv Z h a kA .byte z vs dv) {x' : Int32} (hx' : nar .byte x = x') (hj : ¬ j < 0 ∧ j < z) (hi : j.toNatClampNeg = i) (hl : i < vs.length) (hd : decode bytes pc = .ok (.bastore, 1)) (S : Safe Z EL vm h a) (g0 : n0 ≤ a) (hq : pc + 1 = q)
    (k : ∀ h', Wr h h' a j.toNatClampNeg (.int x') → Arv Z h' a kA .byte z (vs.set i (.int x')) dv → Go wd Z EL p l e R s m args below meth c n0 C N Q vm h' cells slots (mkF m q Ls st)) :
    Go wd Z EL p l e R s m args below meth c n0 C N Q vm h cells slots (mkF m pc Ls (.int x :: .int j :: .ref a :: st)) := by
  subst hq hx'
  obtain ⟨cl, A1, A2, A3, A4, A5, A6⟩ := A
  exact g_wr (fun T locs hZ X eT => stB X B.1 (show Z.Warmed39 (s.setVm vm).vm from hZ) eT A1 (inb_of A3 hj) (g := mkF m pc Ls (.int x :: .int j :: .ref a :: st)) rfl rfl (B.d hd)) S g0 fun h' W => k h' W (Arv.set A1 A2 A3 A4 A5 A6 (fits_nar_byte _) W i hi hl)
theorem g_stI (B : Ctx Z a0 EL p m meth c own bytes ml ret nm) (A : Arv Z h a kA .int z vs dv) (hj : ¬ j < 0 ∧ j < z) (hi : j.toNatClampNeg = i) (hl : i < vs.length) (hd : decode bytes pc = .ok (.iastore, 1)) (S : Safe Z EL vm h a) (g0 : n0 ≤ a) (hq : pc + 1 = q)
    (k : ∀ h', Wr h h' a j.toNatClampNeg (.int x) → Arv Z h' a kA .int z (vs.set i (.int x)) dv → Go wd Z EL p l e R s m args below meth c n0 C N Q vm h' cells slots (mkF m q Ls st)) :
    Go wd Z EL p l e R s m args below meth c n0 C N Q vm h cells slots (mkF m pc Ls (.int x :: .int j :: .ref a :: st)) := by
  subst hq
  obtain ⟨cl, A1, A2, A3, A4, A5, A6⟩ := A
  exact g_wr (fun T locs hZ X eT => stI X B.1 (show Z.Warmed39 (s.setVm vm).vm from hZ) eT A1 (inb_of A3 hj) (g := mkF m pc Ls (.int x :: .int j :: .ref a :: st)) rfl rfl (B.d hd)) S g0 fun h' W => k h' W (Arv.set A1 A2 A3 A4 A5 A6 rfl W i hi hl)
theorem g_stJ (B : Ctx Z a0 EL p m meth c own bytes ml ret nm) (A : Arv Z h a kA .long z vs dv) (hj : ¬ j < 0 ∧ j < z) (hi : j.toNatClampNeg = i) (hl : i < vs.length) (hd : decode bytes pc = .ok (.lastore, 1)) (S : Safe Z EL vm h a) (g0 : n0 ≤ a) (hq : pc + 1 = q)
    (k : ∀ h', Wr h h' a j.toNatClampNeg (.long x64) → Arv Z h' a kA .long z (vs.set i (.long x64)) dv → Go wd Z EL p l e R s m args below meth c n0 C N Q vm h' cells slots (mkF m q Ls st)) :
    Go wd Z EL p l e R s m args below meth c n0 C N Q vm h cells slots (mkF m pc Ls (.long x64 :: .int j :: .ref a :: st)) := by
  subst hq
  obtain ⟨cl, A1, A2, A3, A4, A5, A6⟩ := A
  exact g_wr (fun T locs hZ X eT => stJ X B.1 (show Z.Warmed39 (s.setVm vm).vm from hZ) eT A1 (inb_of A3 hj) (g := mkF m pc Ls (.long x64 :: .int j :: .ref a :: st)) rfl rfl (B.d hd)) S g0 fun h' W => k h' W (Arv.set A1 A2 A3 A4 A5 A6 rfl W i hi hl)
theorem g_stR {K : String} (B : Ctx Z a0 EL p m meth c own bytes ml ret nm) (A : Arv Z h a kA (.object K) z vs dv) (hj : ¬ j < 0 ∧ j < z) (hi : j.toNatClampNeg = i) (hl : i < vs.length) (hv : fits (.object K) v = true) (F : Sto Z h a v) (hd : decode bytes pc = .ok (.aastore, 1)) (S : Safe Z EL vm h a) (g0 : n0 ≤ a) (hq : pc + 1 = q)
    (k : ∀ h', Wr h h' a j.toNatClampNeg v → Arv Z h' a kA (.object K) z (vs.set i v) dv → Go wd Z EL p l e R s m args below meth c n0 C N Q vm h' cells slots (mkF m q Ls st)) :
    Go wd Z EL p l e R s m args below meth c n0 C N Q vm h cells slots (mkF m pc Ls (v :: .int j :: .ref a :: st)) := by
  subst hq
  obtain ⟨cl, A1, A2, A3, A4, A5, A6⟩ := A
  exact g_wr (fun T locs hZ X eT => stR X B.1 (show Z.Warmed39 (s.setVm vm).vm from hZ) eT A1 (inb_of A3 hj) rfl F (g := mkF m pc Ls (v :: .int j :: .ref a :: st)) rfl rfl (B.d hd)) S g0 fun h' W => k h' W (Arv.set A1 A2 A3 A4 A5 A6 hv W i hi hl)
theorem g_len (B : Ctx Z a0 EL p m meth c own bytes ml ret nm) (A : Arv Z h a kA ty z vs dv) (hd : decode bytes pc = .ok (.arraylength, 1)) (hq : pc + 1 = q)
    (k : Go wd Z EL p l e R s m args below meth c n0 C N Q vm h cells slots (mkF m q Ls (.int z :: st))) :
    Go wd Z EL p l e R s m args below meth c n0 C N Q vm h cells slots (mkF m pc Ls (.ref a :: st)) := by
  subst hq
  obtain ⟨cl, A1, A2, A3, A4, A5, A6⟩ := A
  refine g_same (fun T locs hZ X eT => ⟨T, X, eT, fun t kt => X.arraylength B.1 (by rw [eT]; exact A1.1) (State.isArrayOf_alike (show Z.vm.Alike (s.setVm vm).vm from hZ.alike) A1.2.1) (g := mkF m pc Ls (.ref a :: st)) rfl rfl (B.d hd) _ (by rw [len_of A3 A4]; exact kt)⟩) k
theorem g_ldC (B : Ctx Z a0 EL p m meth c own bytes ml ret nm) (A : Arv Z h a kA .char z vs dv) (hj : ¬ j < 0 ∧ j < z) (hv : vs.getD j.toNatClampNeg dv = v) (hd : decode bytes pc = .ok (.caload, 1)) (hq : pc + 1 = q)
    (k : Go wd Z EL p l e R s m args below meth c n0 C N Q vm h cells slots (mkF m q Ls (v :: st))) :
    Go wd Z EL p l e R s m args below meth c n0 C N Q vm h cells slots (mkF m pc Ls (.int j :: .ref a :: st)) := by
  subst hq
  obtain ⟨cl, A1, A2, A3, A4, A5, A6⟩ := A
  refine g_same (fun T locs hZ X eT => ⟨T, X, eT, fun t kt => X.caload B.1 (by rw [eT]; exact A1.1) (State.isArrayOf_alike (show Z.vm.Alike (s.setVm vm).vm from hZ.alike) A1.2.1) A1.2.2 (inb_of A3 hj) (A5.at (inb_of A3 hj) hv) (g := mkF m pc Ls (.int j :: .ref a :: st)) rfl rfl (B.d hd) _ kt⟩) k
theorem g_ldI (B : Ctx Z a0 EL p m meth c own bytes ml ret nm) (A : Arv Z h a kA .int z vs dv) (hj : ¬ j < 0 ∧ j < z) (hv : vs.getD j.toNatClampNeg dv = v) (hd : decode bytes pc = .ok (.iaload, 1)) (hq : pc + 1 = q)
    (k : Go wd Z EL p l e R s m args below meth c n0 C N Q vm h cells slots (mkF m q Ls (v :: st))) :
    Go wd Z EL p l e R s m args below meth c n0 C N Q vm h cells slots (mkF m pc Ls (.int j :: .ref a :: st)) := by
  subst hq
  obtain ⟨cl, A1, A2, A3, A4, A5, A6⟩ := A
  refine g_same (fun T locs hZ X eT => ⟨T, X, eT, fun t kt => X.iaload B.1 (by rw [eT]; exact A1.1) (State.isArrayOf_alike (show Z.vm.Alike (s.setVm vm).vm from hZ.alike) A1.2.1) A1.2.2 (inb_of A3 hj) (A5.at (inb_of A3 hj) hv) (g := mkF m pc Ls (.int j :: .ref a :: st)) rfl rfl (B.d hd) _ kt⟩) k
theorem g_ldJ (B : Ctx Z a0 EL p m meth c own bytes ml ret nm) (A : Arv Z h a kA .long z vs dv) (hj : ¬ j < 0 ∧ j < z) (hv : vs.getD j.toNatClampNeg dv = v) (hd : decode bytes pc = .ok (.laload, 1)) (hq : pc + 1 = q)
    (k : Go wd Z EL p l e R s m args below meth c n0 C N Q vm h cells slots (mkF m q Ls (v :: st))) :
    Go wd Z EL p l e R s m args below meth c n0 C N Q vm h cells slots (mkF m pc Ls (.int j :: .ref a :: st)) := by
  subst hq
  obtain ⟨cl, A1, A2, A3, A4, A5, A6⟩ := A
  refine g_same (fun T locs hZ X eT => ⟨T, X, eT, fun t kt => X.laload B.1 (by rw [eT]; exact A1.1) (State.isArrayOf_alike (show Z.vm.Alike (s.setVm vm).vm from hZ.alike) A1.2.1) A1.2.2 (inb_of A3 hj) (A5.at (inb_of A3 hj) hv) (g := mkF m pc Ls (.int j :: .ref a :: st)) rfl rfl (B.d hd) _ kt⟩) k
theorem g_ldB (B : Ctx Z a0 EL p m meth c own bytes ml ret nm) (A : Arv Z h a kA .byte z vs dv) (hj : ¬ j < 0 ∧ j < z) (hv : vs.getD j.toNatClampNeg dv = v) (hd : decode bytes pc = .ok (.baload, 1)) (hq : pc + 1 = q)
    (k : Go wd Z EL p l e R s m args below meth c n0 C N Q vm h cells slots (mkF m q Ls (v :: st))) :
    Go wd Z EL p l e R s m args below meth c n0 C N Q vm h cells slots (mkF m pc Ls (.int j :: .ref a :: st)) := by
  subst hq
  obtain ⟨cl, A1, A2, A3, A4, A5, A6⟩ := A
  refine g_same (fun T locs hZ X eT => ⟨T, X, eT, fun t kt => X.baloadBytes B.1 (by rw [eT]; exact A1.1) (State.isArrayOf_alike (show Z.vm.Alike (s.setVm vm).vm from hZ.alike) A1.2.1) A1.2.2 (inb_of A3 hj) (A5.at (inb_of A3 hj) hv) (g := mkF m pc Ls (.int j :: .ref a :: st)) rfl rfl (B.d hd) _ kt⟩) k
theorem g_ldR (B : Ctx Z a0 EL p m meth c own bytes ml ret nm) (A : Arv Z h a kA ty z vs dv) (hty : ty.isReference = true) (hj : ¬ j < 0 ∧ j < z) (hv : vs.getD j.toNatClampNeg dv = v) (hd : decode bytes pc = .ok (.aaload, 1)) (hq : pc + 1 = q)
    (k : Go wd Z EL p l e R s m args below meth c n0 C N Q vm h cells slots (mkF m q Ls (v :: st))) :
    Go wd Z EL p l e R s m args below meth c n0 C N Q vm h cells slots (mkF m pc Ls (.int j :: .ref a :: st)) := by
  subst hq
  obtain ⟨cl, A1, A2, A3, A4, A5, A6⟩ := A
  refine g_same (fun T locs hZ X eT => ⟨T, X, eT, fun t kt => X.aaload B.1 (by rw [eT]; exact A1.1) (State.isArrayOf_alike (show Z.vm.Alike (s.setVm vm).vm from hZ.alike) A1.2.1) hty A1.2.2 (inb_of A3 hj) (A5.at (inb_of A3 hj) hv) (g := mkF m pc Ls (.int j :: .ref a :: st)) rfl rfl (B.d hd) _ kt⟩) k
end Arrays
theorem g_ldcI {index : Nat} {v : Int32} (B : Ctx Z a0 EL p m meth c own bytes ml ret nm) (w : (Cond.constant own index v).before a0 Z = true) (hd : decode bytes pc = .ok (.ldc index, 2)) (hq : pc + 2 = q)
    (k : Go wd Z EL p l e R s m args below meth c n0 C N Q vm h cells slots (mkF m q Ls (.int v :: st))) : Go wd Z EL p l e R s m args below meth c n0 C N Q vm h cells slots (mkF m pc Ls st) := by
  subst hq
  exact g_same (fun T locs hZ X eT => ⟨T, X, eT, X.ldcInt B.1 (B.fc hZ) (mvT (s := s.setVm vm) hZ w) (g := mkF m pc Ls st) rfl (B.d hd)⟩) k
theorem g_ldcwI {index : Nat} {v : Int32} (B : Ctx Z a0 EL p m meth c own bytes ml ret nm) (w : (Cond.constant own index v).before a0 Z = true) (hd : decode bytes pc = .ok (.ldc_w index, 3)) (hq : pc + 3 = q)
    (k : Go wd Z EL p l e R s m args below meth c n0 C N Q vm h cells slots (mkF m q Ls (.int v :: st))) : Go wd Z EL p l e R s m args below meth c n0 C N Q vm h cells slots (mkF m pc Ls st) := by
  subst hq
  exact g_same (fun T locs hZ X eT => ⟨T, X, eT, X.ldcwInt B.1 (B.fc hZ) (mvT (s := s.setVm vm) hZ w) (g := mkF m pc Ls st) rfl (B.d hd)⟩) k
theorem g_ldc2J {index : Nat} {v : Int64} (B : Ctx Z a0 EL p m meth c own bytes ml ret nm) (w : (Cond.constantLong own index v).before a0 Z = true) (hd : decode bytes pc = .ok (.ldc2_w index, 3)) (hq : pc + 3 = q)
    (k : Go wd Z EL p l e R s m args below meth c n0 C N Q vm h cells slots (mkF m q Ls (.long v :: st))) : Go wd Z EL p l e R s m args below meth c n0 C N Q vm h cells slots (mkF m pc Ls st) := by
  subst hq
  exact g_same (fun T locs hZ X eT => ⟨T, X, eT, X.ldc2Long B.1 (B.fc hZ) (mvT (s := s.setVm vm) hZ w) (g := mkF m pc Ls st) rfl (B.d hd)⟩) k
/-! String constants, array clones, references compared -/
theorem g_ldcS {index : Nat} {text : String} {vs : List Value} {z : Int32} {n : Nat} (B : Ctx Z a0 EL p m meth c own bytes ml ret nm) (w : (Cond.stringLink own index text).before a0 Z = true) (wS : ∀ a ∈ Bundle.stringAtoms, a.before a0 Z = true) (hmem : (own, index) ∈ EL)
    (ht : (∀ c ∈ text.toList, c.toNat < 256) ∧ text.toList.map (fun c => Value.int (Jvm.Lit.byteI c.toNat.toUInt16)) = vs) (hz : ¬ z < 0) (hl : z.toNatClampNeg = vs.length)
    (hd : decode bytes pc = .ok (.ldc index, 2)) (hn : 4 * text.toList.length ≤ n) (hbig : n ≤ 536870912) (hc : cells + 2 ≤ R.cells) (hsl : slots + (n + 4) ≤ R.slots) (hq : pc + 2 = q)
    (k : ∀ (h' : Heap) (vm' : Vm) (a b : Addr) (kb : ClassId), Z.Warmed39 vm' → Ext h h' → CHr Z EL vm h vm' h' → Exa Z h' a "java/lang/String" → Fld Z h' a "java/lang/String" "coder" "B" (.int 0) → Fld Z h' a "java/lang/String" "value" "[B" (.ref b) → Arv Z h' b kb .byte z vs (.int 0) →
      (∀ x, Safe Z EL vm' h' x → @Ne Nat x a ∧ @Ne Nat x b) → Go true Z EL p l e R s m args below meth c n0 C N Q vm' h' (cells + 2) (slots + (n + 4)) (mkF m q Ls (.ref a :: st))) :
    Go true Z EL p l e R s m args below meth c n0 C N Q vm h cells slots (mkF m pc Ls st) := by
  subst hq
  intro W T locs X eT F
  obtain ⟨hZ, ⟨k0, hS, hk⟩, hR, hw⟩ := W
  obtain ⟨a, T', h', k1, b, kb, X', e', E', hS', hk', hZ', -, A1, A2, A3, A4, -, -, hC, -, hne, st'⟩ := ldcCH X B.1 hZ (B.fc (s := s) hZ) w wS eT hS hk B.2.2.2.2.2.2.2 hmem hR.1 ht hz hl (g := mkF m pc Ls st) rfl (B.d hd) hn hbig hc hsl
  obtain ⟨s₂, o, r1, r⟩ := k h' T'.vm a b kb hZ' E' hC A1 A2 A3 A4 hne ⟨hZ', ⟨k1, hS', hk'⟩, hR.trans hC, fun q => (nomatch q)⟩ T' locs X' e' F
  exact ⟨s₂, o, st' _ r1, r⟩
theorem g_clone {ad : String} {index : Nat} {a : Addr} {kA : ClassId} {ty : FieldType} {z : Int32} {vs : List Value} {dv : Value} {W cap : Nat} (B : Ctx Z a0 EL p m meth c own bytes ml ret nm)
    (w1 : (Cond.methodLink own index ⟨ad, "clone", "()Ljava/lang/Object;"⟩).before a0 Z = true) (w2 : (Cond.sameMethod ad "java/lang/Object" "clone" "()Ljava/lang/Object;").before a0 Z = true) (w3 : (Cond.native ⟨"java/lang/Object", "clone", "()Ljava/lang/Object;"⟩).before a0 Z = true)
    (w4 : (Cond.instanceMethod ⟨"java/lang/Object", "clone", "()Ljava/lang/Object;"⟩).before a0 Z = true) (w5 : (Cond.selects ad ⟨ad, "clone", "()Ljava/lang/Object;"⟩ ⟨"java/lang/Object", "clone", "()Ljava/lang/Object;"⟩).before a0 Z = true) (w6 : (Cond.castable ad "java/lang/Cloneable").before a0 Z = true)
    (A : Arv Z h a kA ty z vs dv) (E : Exa Z h a ad) (hs : Ls.size = ml) (hd : decode bytes pc = .ok (.invokevirtual index, 3)) (hf : 1 ≤ R.frames) (hW : (st.map fun v => v.category).sum ≤ W) (hl : W + 14 ≤ R.locals) (hcap : z.toNatClampNeg ≤ cap) (hc : cells + 1 ≤ R.cells) (hsl : slots + cap ≤ R.slots) (hq : pc + 3 = q)
    (k : ∀ (h' : Heap) (b : Addr), @Eq Nat b h.size → Ext h h' → Safe Z EL vm h' b → Arv Z h' b kA ty z vs dv → Exa Z h' b ad → Go wd Z EL p l e R s m args below meth c n0 C N Q vm h' (cells + 1) (slots + cap) (mkF m q Ls (.ref b :: st))) :
    Go wd Z EL p l e R s m args below meth c n0 C N Q vm h cells slots (mkF m pc Ls (.ref a :: st)) := by
  subst hq
  intro Wt0
  refine g_ext (cells' := cells + 1) (slots' := slots + cap) (G := mkF m (pc + 3) Ls (.ref h.size :: st)) (P := fun h' => Arv Z h' h.size kA ty z vs dv ∧ Exa Z h' h.size ad) (fun T locs hZ X eT => ?_) (fun h' E' P => k h' h.size rfl E' (Safe.ext E' Wt0.2.2.1.1 (Safe.new (Nat.le_refl _))) P.1 P.2) Wt0
  obtain ⟨T', h', X', e', E', A', D', st'⟩ := cloneH X B.1 (show Z.Warmed39 (s.setVm vm).vm from hZ) (B.fc hZ) w1 w2 w3 w4 w5 w6 eT A.arh E (g := mkF m pc Ls (.ref a :: st)) rfl (hs.trans B.2.2.1.symm) rfl (B.d hd) hf (W := W) (by show 2 * 0 + _ ≤ W; omega) hl hcap hc hsl
  exact ⟨T', h', X', e', E', ⟨A', D'⟩, st'⟩
theorem g_acmp {cd : ACond} {x y : Value} {of : Int} {same : Bool} (B : Ctx Z a0 EL p m meth c own bytes ml ret nm) (h1 : x.isRef = true) (h2 : y.isRef = true) (hd : decode bytes pc = .ok (.if_acmp cd of, 3)) (hs : decide (x = y) = same) (ho : 0 ≤ (pc : Int) + of) (hq : q = if acV cd same = true then ((pc : Int) + of).toNat else pc + 3)
    (k : Go wd Z EL p l e R s m args below meth c n0 C N Q vm h cells slots (mkF m q Ls st)) : Go wd Z EL p l e R s m args below meth c n0 C N Q vm h cells slots (mkF m pc Ls (y :: x :: st)) :=
  g_same (fun T locs hZ X eT => ⟨T, X, eT, fun t kt => Jvm.RoadKit.acmp (g := mkF m pc Ls (y :: x :: st)) X B.1 rfl h1 h2 (pc0 := pc) (pc' := q) (same := same) rfl (B.d hd) rfl hs ho hq kt⟩) k
theorem g_instNull {index : Nat} (B : Ctx Z a0 EL p m meth c own bytes ml ret nm) (hd : decode bytes pc = .ok (.instanceof index, 3)) (hq : pc + 3 = q)
    (k : Go wd Z EL p l e R s m args below meth c n0 C N Q vm h cells slots (mkF m q Ls (.int 0 :: st))) : Go wd Z EL p l e R s m args below meth c n0 C N Q vm h cells slots (mkF m pc Ls (.null :: st)) := by
  subst hq
  exact g_same (fun T locs hZ X eT => ⟨T, X, eT, fun t kt => X.instanceofNull B.1 (g := mkF m pc Ls (.null :: st)) rfl rfl (B.d hd) _ kt⟩) k
theorem g_castNull {index : Nat} (B : Ctx Z a0 EL p m meth c own bytes ml ret nm) (hd : decode bytes pc = .ok (.checkcast index, 3)) (hq : pc + 3 = q)
    (k : Go wd Z EL p l e R s m args below meth c n0 C N Q vm h cells slots (mkF m q Ls (.null :: st))) : Go wd Z EL p l e R s m args below meth c n0 C N Q vm h cells slots (mkF m pc Ls (.null :: st)) := by
  subst hq
  exact g_same (fun T locs hZ X eT => ⟨T, X, eT, fun t kt => X.checkcastNull B.1 (g := mkF m pc Ls (.null :: st)) rfl rfl (B.d hd) _ kt⟩) k
/-- System.arraycopy -/
theorem g_cp {index : Nat} {a b : Addr} {kA kB : ClassId} {ty ty' : FieldType} {z z' sp dp nn : Int32} {vs vd us vr : List Value} {dv dd : Value} {W : Nat} (B : Ctx Z a0 EL p m meth c own bytes ml ret nm)
    (w1 : (Cond.methodLink own index Jvm.Stand.acN).before a0 Z = true) (w2 : (Cond.native Jvm.Stand.acN).before a0 Z = true) (w3 : (Cond.static Jvm.Stand.acN).before a0 Z = true) (w4 : (Cond.initialized "java/lang/System").before a0 Z = true)
    (A : Arv Z h a kA ty z vs dv) (D : Arv Z h b kB ty' z' vd dd) (hty : (ty = ty' ∧ refKind ty = false) ∨ (refKind ty = true ∧ refKind ty' = true ∧ StoL Z h b us)) (h1 : ¬ sp < 0) (h2 : ¬ dp < 0) (h3 : ¬ nn < 0)
    (h4 : sp.toNatClampNeg + nn.toNatClampNeg ≤ z.toNatClampNeg) (h5 : dp.toNatClampNeg + nn.toNatClampNeg ≤ z'.toNatClampNeg) (hus : us = (List.range nn.toNatClampNeg).map fun i => vs.getD (sp.toNatClampNeg + i) dv) (hl : dp.toNatClampNeg + nn.toNatClampNeg ≤ vd.length)
    (hr : vd.take dp.toNatClampNeg ++ us ++ vd.drop (dp.toNatClampNeg + nn.toNatClampNeg) = vr) (hs : Ls.size = ml) (hd : decode bytes pc = .ok (.invokestatic index, 3)) (hf : 1 ≤ R.frames) (hW : (st.map fun v => v.category).sum ≤ W) (hlo : W + (nativeFrameWords "java/lang/System" "arraycopy" 5 + 11) ≤ R.locals)
    (S : Safe Z EL vm h b) (ge : n0 ≤ b) (hq : pc + 3 = q) (k : ∀ h', Keep h h' [b] → Arv Z h' b kB ty' z' vr dd → Go wd Z EL p l e R s m args below meth c n0 C N Q vm h' cells slots (mkF m q Ls st)) :
    Go wd Z EL p l e R s m args below meth c n0 C N Q vm h cells slots (mkF m pc Ls (.int nn :: .int dp :: .ref b :: .int sp :: .ref a :: st)) := by
  subst hq
  intro Wt0 T locs X eT F
  obtain ⟨T', h', L, X', e', F', K, A', st'⟩ := cpA X B.1 (show Z.Warmed39 (s.setVm vm).vm from Wt0.1) (B.fc Wt0.1) w1 w2 w3 w4 eT A D hty h1 h2 h3 h4 h5 hus hl F ge (g := mkF m pc Ls (.int nn :: .int dp :: .ref b :: .int sp :: .ref a :: st)) rfl (hs.trans B.2.2.1.symm) rfl (B.d hd) hf (W := W) (by show 2 * 0 + _ ≤ W; omega) hlo
  rw [hr] at A'
  obtain ⟨s₂, o, r1, r⟩ := k h' K A' (Wt0.keep (fun x hx => by cases List.mem_singleton.mp hx; exact S) K) T' L X' e' F'
  exact ⟨s₂, o, st' _ r1, r⟩
/-! returns -/
theorem g_end {v : Option Value} (B : Ctx Z a0 EL p m meth c own bytes ml ret nm) (hv : ret = none → v = none) (hC : cells ≤ C) (hN : slots ≤ N) (hQ : Q v h)
    (hs : ∀ (T : State) (locs : List Loc) (fs : List Frame), Stand p l e R (s.setVm vm) m args below meth c T locs cells slots → (∀ (f : JFrame) (acts : List Action), f.method = m → f.locked = none → f.entered = [] → (doReturn e (T.setTop f) acts v).1 = T.setFrames fs) → Steps p.tables e below (T.setTop g) (T.setFrames fs)) :
    Go wd Z EL p l e R s m args below meth c n0 C N Q vm h cells slots g := by
  intro W T locs X eT F
  obtain ⟨hZ, ⟨k0, hS, hk⟩, hR, hw⟩ := W
  have hlk : meth.locks = false := B.2.2.2.2.1
  have hv' : meth.sig.returnType = none → v = none := fun z => hv (B.2.2.2.1.symm.trans z)
  subst eT
  obtain ⟨fs, hr, hrun, hend, hE⟩ := X.leaveW hS hk (v := v) hv' hlk
  have hR2 : CHr Z EL s.vm s.heap (T.setFrames fs).vm (T.setFrames fs).heap := hR.trans (show CHr Z EL vm T.heap T.vm T.heap from CHv.at X hZ B.2.2.2.2.2.2.2 hR.1)
  refine ⟨_, _, hs T locs fs X hr, hrun, hend, v, locs, rfl, ⟨hQ, F⟩, hR2, ⟨hE.1, hE.2.1, hE.2.2.1, hE.2.2.2.mono hC hN⟩, fun z => ?_⟩
  obtain ⟨rfl, -⟩ := hw z
  exact ⟨hE.1, X.warmed, hE.2.2.2.mono hC hN⟩
theorem g_ret0 (B : Ctx Z a0 EL p m meth c own bytes ml none nm) (hd : decode bytes pc = .ok (.return_, 1)) (hC : cells ≤ C) (hN : slots ≤ N) (hQ : Q none h) :
    Go wd Z EL p l e R s m args below meth c n0 C N Q vm h cells slots (mkF m pc Ls []) :=
  g_end B (fun _ => rfl) hC hN hQ fun T locs fs X hr => X.returnOut B.1 B.2.2.2.1 (B.d hd) hr
theorem g_retN {t : FieldType} {z : Int32} (B : Ctx Z a0 EL p m meth c own bytes ml (some t) nm) (ht : t = .boolean ∨ t = .byte ∨ t = .char ∨ t = .short) (hd : decode bytes pc = .ok (.ireturn, 1)) (hC : cells ≤ C) (hN : slots ≤ N) (hQ : Q (some (.int (nar t z))) h) :
    Go wd Z EL p l e R s m args below meth c n0 C N Q vm h cells slots (mkF m pc Ls (.int z :: st)) :=
  g_end B (fun q => nomatch q) hC hN hQ fun T locs fs X hr => retN X B.1 B.2.2.2.1 ht (B.d hd) hr
theorem g_retI {z : Int32} (B : Ctx Z a0 EL p m meth c own bytes ml (some .int) nm) (hd : decode bytes pc = .ok (.ireturn, 1)) (hC : cells ≤ C) (hN : slots ≤ N) (hQ : Q (some (.int z)) h) :
    Go wd Z EL p l e R s m args below meth c n0 C N Q vm h cells slots (mkF m pc Ls (.int z :: st)) :=
  g_end B (fun q => nomatch q) hC hN hQ fun T locs fs X hr => retOut X B.1 B.2.2.2.1 rfl (Or.inl ⟨rfl, Or.inl rfl, z, rfl⟩) (B.d hd) hr
theorem g_retJ {z : Int64} (B : Ctx Z a0 EL p m meth c own bytes ml (some .long) nm) (hd : decode bytes pc = .ok (.lreturn, 1)) (hC : cells ≤ C) (hN : slots ≤ N) (hQ : Q (some (.long z)) h) :
    Go wd Z EL p l e R s m args below meth c n0 C N Q vm h cells slots (mkF m pc Ls (.long z :: st)) :=
  g_end B (fun q => nomatch q) hC hN hQ fun T locs fs X hr => retOut X B.1 B.2.2.2.1 rfl (Or.inr (Or.inl ⟨rfl, rfl, z, rfl⟩)) (B.d hd) hr
theorem g_retA {t : FieldType} {v : Value} (B : Ctx Z a0 EL p m meth c own bytes ml (some t) nm) (ht : t.isReference = true) (hv : v.isRef = true) (hd : decode bytes pc = .ok (.areturn, 1)) (hC : cells ≤ C) (hN : slots ≤ N) (hQ : Q (some v) h) :
    Go wd Z EL p l e R s m args below meth c n0 C N Q vm h cells slots (mkF m pc Ls (v :: st)) :=
  g_end B (fun q => nomatch q) hC hN hQ fun T locs fs X hr => retOut X B.1 B.2.2.2.1 (by rcases ref_cases hv with rfl | ⟨a, rfl⟩ <;> cases t <;> first | rfl | (cases ht; done)) (Or.inr (Or.inr (Or.inr (Or.inr ⟨rfl, ht, hv⟩)))) (B.d hd) hr
/-! contracts -/
/-- what a body promises: from the arguments 'as' at the heap h it comes back with Q -/
def Met (wd : Bool) (Z : State) (EL : List (String × Nat)) (l : Launch) (y : MethodName) (bytes : ByteArray) (ml : Nat) (ret : Option FieldType) (rm : Room) (as : Array Value) (h : Heap) (sf : List Addr) (n0 : Nat) (Q : Option Value → Heap → Prop) : Prop :=
  ∀ ws, MetFree l y (head1 (Jvm.Cond.code y bytes ml ret :: ws) rm) (fun a U => a = as ∧ Z.Warmed39 U.vm ∧ U.heap = h ∧ CHv Z EL U.vm h ∧ ∀ x ∈ sf, Safe Z EL U.vm h x) (fun _ _ _ _ _ => True) (fun _ U o U' => Fin wd Z EL n0 rm.cells rm.slots Q U o U')
theorem Met.of {y : MethodName} {rm : Room} {as : Array Value} {sf : List Addr} (hnw : wd = false → EL = []) (hpl : plainFor y = true) (hEL : EW Z a0 EL) (hent : ∀ m, entryFrame m as ml = mkF m 0 Ls [])
    (body : ∀ p e s m below meth c, Ctx Z a0 EL p m meth c y.cls bytes ml ret y.name → (∀ x ∈ sf, Safe Z EL s.vm h x) → Go wd Z EL p l e rm s m as below meth c n0 rm.cells rm.slots Q s.vm h 0 0 (mkF m 0 Ls [])) : Met wd Z EL l y bytes ml ret rm as h sf n0 Q := by
  intro ws
  refine MetFree.of_bodySF hpl hisR ?_
  intro p e s m args below meth c s₁ Bd hml0 hP hK
  obtain ⟨rfl, hZ, hh, hC, hsf⟩ := hP
  have X0 : Stand p l e rm s m args below meth c s₁ [] 0 0 := Stand.of_body Bd
  have e0 : s₁.heap = h := by rw [← hh, Bd.state]; rfl
  have hown : Z.vm.findClass y.cls = some m.cls := by rw [← hZ.alike.findClass]; exact findClass_of_methodNamed Bd.named
  obtain ⟨s₂, o, r1, r⟩ := body p e s m below meth c ⟨Bd.exec, Bd.bytes, hml0, Bd.returns, Bd.notSynchronized, hown, (name_of_methodNamed Bd.named Bd.method).1, hEL⟩ hsf
    ⟨hZ, ⟨0, (State.WarmedH.refl s).since 0, Nat.zero_le _⟩, by rw [hh]; exact CHr.refl hC, fun z => ⟨rfl, hnw z⟩⟩ s₁ [] X0 e0 (Fr.nil n0)
  exact ⟨s₂, o, castTop (hent m) r1, r⟩
/-! calls -/
/-- a call site: whoever pays the callee, the walk goes on behind it -/
def Call (Z : State) (p : Program) (l : Launch) (e : Env) (R : Room) (s : State) (m : MethodId) (args : Array Value) (below : List Frame) (meth : Method) (c : Code) (vm : Vm) (h : Heap) (y : MethodName) (len W : Nat) (as : Array Value) (g : JFrame) (G : Option Value → JFrame) : Prop :=
  Z.Warmed39 vm → ∀ (T : State) (locs : List Loc) (cells slots : Nat), Stand p l e R (s.setVm vm) m args below meth c T locs cells slots → T.heap = h →
    (∀ {Pre : Pt → Array Value → Prop} {Post : Pt → Array Value → Option Value → Pt → Prop}, Back l R p e below (s.setVm vm) args y len W Pre Post → (∀ vm₁, (s.setVm vm).WarmedH vm₁ → Pre ⟨T.setVm vm₁, locs, cells, slots⟩ as) →
      ∃ (v : Option Value) (vm₁ : Vm) (B : Pt), Stand p l e R (s.setVm vm) m args below meth c B.U B.locs B.cells B.slots ∧ Post ⟨T.setVm vm₁, locs, cells, slots⟩ as v B ∧ Steps p.tables e below (T.setTop g) (B.U.setTop (G v))) ∧
    (∀ {Pre : Pt → Array Value → Prop} {Post : Pt → Array Value → Option Value → Pt → Prop}, BackS l R p e below (s.setVm vm) args y len W Pre Post → (∀ vm₁, (s.setVm vm).WarmedH vm₁ → Pre ⟨T.setVm vm₁, locs, cells, slots⟩ as) →
      ∃ (v : Option Value) (vm₁ : Vm) (B : Pt), Stand p l e R ((s.setVm vm).setVm B.U.vm) m args below meth c B.U B.locs B.cells B.slots ∧ (s.setVm vm).Since B.U.vm B.U.heap.size ∧ T.heap.size ≤ B.U.heap.size ∧ Post ⟨T.setVm vm₁, locs, cells, slots⟩ as v B ∧ Steps p.tables e below (T.setTop g) (B.U.setTop (G v)))
section CallSites
variable {y : MethodName} {index : Nat} {bs : ByteArray} {mL : Nat} {rt : Option FieldType} {W : Nat} {argsL rest : List Value}
theorem c_static (B : Ctx Z a0 EL p m meth c own bytes ml ret nm) (w1 : (Cond.methodLink own index y).before a0 Z = true) (w2 : (Cond.static y).before a0 Z = true) (w3 : (Cond.initialized y.cls).before a0 Z = true) (w4 : (Cond.code y bs mL rt).before a0 Z = true)
    (hy : y.cls ≠ "java/lang/invoke/MethodHandle" ∧ y.cls ≠ "java/lang/invoke/VarHandle") (hs : Ls.size = ml) (hlen : ∀ sig, parseMethodDescriptor y.desc = some sig → argsL.length = sig.parameters.length) (hst : st = argsL.reverse ++ rest) (hW : (rest.map fun v => v.category).sum ≤ W)
    (hd : decode bytes pc = .ok (.invokestatic index, 3)) (hq : pc + 3 = q) : Call Z p l e R s m args below meth c vm h y 3 W argsL.toArray (mkF m pc Ls st) (fun v => mkF m q Ls (v.toList ++ rest)) := by
  subst hq hst
  intro hZ T locs cells slots X eT
  have hZ' : Z.Warmed39 (s.setVm vm).vm := hZ
  refine ⟨fun {Pre Post} hK hpre => ?_, fun {Pre Post} hK hpre => ?_⟩
  · obtain ⟨v, vm₁, B', -, X', hP, st'⟩ := Jvm.LawKit.callS X B.1 (B.fc hZ) (mvT hZ' w1) (mvT hZ' w2) (mvT hZ' w3) (mvT hZ' w4) hy hK (g := mkF m pc Ls (argsL.reverse ++ rest)) rfl (hs.trans B.2.2.1.symm) hlen rfl (by show 2 * 0 + _ ≤ W; omega) (B.d hd) hpre
    exact ⟨v, vm₁, B', X', hP, st' _ (Steps.refl _)⟩
  · obtain ⟨v, vm₁, B', -, X', h1, h2, hP, st'⟩ := callSS X B.1 (B.fc hZ) (mvT hZ' w1) (mvT hZ' w2) (mvT hZ' w3) (mvT hZ' w4) hy hK (g := mkF m pc Ls (argsL.reverse ++ rest)) rfl (hs.trans B.2.2.1.symm) hlen rfl (by show 2 * 0 + _ ≤ W; omega) (B.d hd) hpre
    exact ⟨v, vm₁, B', X', h1, h2, hP, st'⟩
theorem c_init {a : Addr} (B : Ctx Z a0 EL p m meth c own bytes ml ret nm) (hy1 : y.name = "<init>") (w1 : (Cond.methodLink own index y).before a0 Z = true) (w2 : (Cond.instanceMethod y).before a0 Z = true) (w4 : (Cond.code y bs mL none).before a0 Z = true)
    (hy : y.cls ≠ "java/lang/invoke/MethodHandle" ∧ y.cls ≠ "java/lang/invoke/VarHandle") (hs : Ls.size = ml) (hlen : ∀ sig, parseMethodDescriptor y.desc = some sig → argsL.length = sig.parameters.length) (hst : st = argsL.reverse ++ .ref a :: rest) (hW : (rest.map fun v => v.category).sum ≤ W)
    (hd : decode bytes pc = .ok (.invokespecial index, 3)) (hq : pc + 3 = q) : Call Z p l e R s m args below meth c vm h y 3 W (.ref a :: argsL).toArray (mkF m pc Ls st) (fun v => mkF m q Ls (v.toList ++ rest)) := by
  subst hq hst
  intro hZ T locs cells slots X eT
  have hZ' : Z.Warmed39 (s.setVm vm).vm := hZ
  refine ⟨fun {Pre Post} hK hpre => ?_, fun {Pre Post} hK hpre => ?_⟩
  · obtain ⟨v, vm₁, B', -, X', hP, st'⟩ := X.specialBack B.1 hy1 (B.fc hZ) (mvT hZ' w1) (mvT hZ' w2) (mvT hZ' w4) hy hK (g := mkF m pc Ls (argsL.reverse ++ .ref a :: rest)) rfl (hs.trans B.2.2.1.symm) (Steps.refl _) hlen rfl (by show 2 * 0 + _ ≤ W; omega) (B.d hd) hpre
    exact ⟨v, vm₁, B', X', hP, st'⟩
  · obtain ⟨v, vm₁, B', -, X', h1, h2, hP, st'⟩ := X.specialBackS B.1 hy1 (B.fc hZ) (mvT hZ' w1) (mvT hZ' w2) (mvT hZ' w4) hy hK (g := mkF m pc Ls (argsL.reverse ++ .ref a :: rest)) rfl (hs.trans B.2.2.1.symm) (Steps.refl _) hlen rfl (by show 2 * 0 + _ ≤ W; omega) (B.d hd) hpre
    exact ⟨v, vm₁, B', X', h1, h2, hP, st'⟩
theorem c_virt {z : MethodName} {a : Addr} {K : String} (B : Ctx Z a0 EL p m meth c own bytes ml ret nm) (E : Exa Z h a K) (w1 : (Cond.methodLink own index z).before a0 Z = true) (w2 : (Cond.declares z).before a0 Z = true) (w3 : (Cond.selects K z y).before a0 Z = true) (w4 : (Cond.instanceMethod y).before a0 Z = true)
    (hnf : ∀ s' : State, Z.Warmed39 s'.vm → NotFace s' z) (hy : z.cls ≠ "java/lang/invoke/MethodHandle" ∧ z.cls ≠ "java/lang/invoke/VarHandle") (hs : Ls.size = ml) (hlen : ∀ sig, parseMethodDescriptor z.desc = some sig → argsL.length = sig.parameters.length) (hst : st = argsL.reverse ++ .ref a :: rest) (hW : (rest.map fun v => v.category).sum ≤ W)
    (hd : decode bytes pc = .ok (.invokevirtual index, 3)) (hq : pc + 3 = q) : Call Z p l e R s m args below meth c vm h y 3 W (.ref a :: argsL).toArray (mkF m pc Ls st) (fun v => mkF m q Ls (v.toList ++ rest)) := by
  subst hq hst
  intro hZ T locs cells slots X eT
  have hZ' : Z.Warmed39 (s.setVm vm).vm := hZ
  obtain ⟨cB, kB, i1, i2, i3⟩ := isOf (s := s.setVm vm) hZ' eT E
  refine ⟨fun {Pre Post} hK hpre => ?_, fun {Pre Post} hK hpre => ?_⟩
  · obtain ⟨v, vm₁, B', -, X', hP, st'⟩ := X.virtualBack B.1 (B.fc hZ) (mvT hZ' w1) (mvT hZ' w2) (hnf _ hZ') (mvT hZ' w3) (mvT hZ' w4) hy hK i1 i3 (g := mkF m pc Ls (argsL.reverse ++ .ref a :: rest)) rfl (hs.trans B.2.2.1.symm) (Steps.refl _) hlen rfl (by show 2 * 0 + _ ≤ W; omega) (B.d hd) hpre
    exact ⟨v, vm₁, B', X', hP, st'⟩
  · obtain ⟨v, vm₁, B', -, X', h1, h2, hP, st'⟩ := X.virtualBackS B.1 (B.fc hZ) (mvT hZ' w1) (mvT hZ' w2) (hnf _ hZ') (mvT hZ' w3) (mvT hZ' w4) hy hK i1 i3 (g := mkF m pc Ls (argsL.reverse ++ .ref a :: rest)) rfl (hs.trans B.2.2.1.symm) (Steps.refl _) hlen rfl (by show 2 * 0 + _ ≤ W; omega) (B.d hd) hpre
    exact ⟨v, vm₁, B', X', h1, h2, hP, st'⟩
/-- a private method by invokevirtual; z: another method of its class, which some class selects -/
theorem c_priv {z : MethodName} {a : Addr} {K K' : String} (B : Ctx Z a0 EL p m meth c own bytes ml ret nm) (E : Exa Z h a K) (w1 : (Cond.methodLink own index y).before a0 Z = true) (w2 : (Cond.instanceMethod y).before a0 Z = true) (w3 : (Cond.privateMethod y).before a0 Z = true) (w4 : (Cond.code y bs mL rt).before a0 Z = true)
    (wo : (Cond.selects K' z z).before a0 Z = true) (hz : z.cls = y.cls) (hy : y.cls ≠ "java/lang/invoke/MethodHandle" ∧ y.cls ≠ "java/lang/invoke/VarHandle") (hs : Ls.size = ml) (hlen : ∀ sig, parseMethodDescriptor y.desc = some sig → argsL.length = sig.parameters.length) (hst : st = argsL.reverse ++ .ref a :: rest) (hW : (rest.map fun v => v.category).sum ≤ W)
    (hd : decode bytes pc = .ok (.invokevirtual index, 3)) (hq : pc + 3 = q) : Call Z p l e R s m args below meth c vm h y 3 W (.ref a :: argsL).toArray (mkF m pc Ls st) (fun v => mkF m q Ls (v.toList ++ rest)) := by
  subst hq hst
  intro hZ T locs cells slots X eT
  have hZ' : Z.Warmed39 (s.setVm vm).vm := hZ
  obtain ⟨cell, i1, i2⟩ := E.cell
  have hpr : (s.setVm vm).PrivateAt y := Cond.privateMethod_at (mvP hZ' w3 (args := #[]))
  have hsel : (Cond.selects y.cls y y).before args (s.setVm vm) = true := by
    obtain ⟨c2, r2, m2, q1, q2, q3, q4, kP, hkP, hkPi⟩ := Cond.selects_spec (mvT hZ' wo (args := #[]))
    have hc := findClass_of_methodNamed q3
    rw [hz] at hc
    exact selects_self_of_private hc hkP hkPi hpr (mvT hZ' w2) hy
  refine ⟨fun {Pre Post} hK hpre => ?_, fun {Pre Post} hK hpre => ?_⟩
  · obtain ⟨v, vm₁, B', -, X', hP, st'⟩ := X.privateBack B.1 (B.fc hZ) (mvT hZ' w1) (mvT hZ' w2) hsel hpr (mvT hZ' w4) hy hK (g := mkF m pc Ls (argsL.reverse ++ .ref a :: rest)) rfl (hs.trans B.2.2.1.symm) (Steps.refl _) (by rw [eT]; exact i1) i2 hlen rfl (by show 2 * 0 + _ ≤ W; omega) (B.d hd) hpre
    exact ⟨v, vm₁, B', X', hP, st'⟩
  · obtain ⟨v, vm₁, B', -, X', h1, h2, hP, st'⟩ := X.privateBackS B.1 (B.fc hZ) (mvT hZ' w1) (mvT hZ' w2) hsel hpr (mvT hZ' w4) hy hK (g := mkF m pc Ls (argsL.reverse ++ .ref a :: rest)) rfl (hs.trans B.2.2.1.symm) (Steps.refl _) (by rw [eT]; exact i1) i2 hlen rfl (by show 2 * 0 + _ ≤ W; omega) (B.d hd) hpre
    exact ⟨v, vm₁, B', X', h1, h2, hP, st'⟩
theorem c_iface {xi : MethodName} {a : Addr} {K : String} {count : Nat} (B : Ctx Z a0 EL p m meth c own bytes ml ret nm) (E : Exa Z h a K) (w1 : (Cond.methodLink own index xi).before a0 Z = true) (w2 : (Cond.declares xi).before a0 Z = true) (w3 : (Cond.interfaceMethod xi.cls xi.cls xi.name xi.desc).before a0 Z = true) (w4 : (Cond.selects K xi y).before a0 Z = true) (w5 : (Cond.instanceMethod y).before a0 Z = true)
    (w6 : (Cond.publicMethod y).before a0 Z = true) (w7 : (Cond.unhidden K xi.name xi.desc).before a0 Z = true) (w8 : (Cond.castable K xi.cls).before a0 Z = true) (hw3 : ((Cond.interfaceMethod xi.cls xi.cls xi.name xi.desc).onTables && (Cond.interfaceMethod xi.cls xi.cls xi.name xi.desc).keepsFace) = true) (hy : xi.cls ≠ "java/lang/invoke/MethodHandle" ∧ xi.cls ≠ "java/lang/invoke/VarHandle") (hs : Ls.size = ml) (hlen : ∀ sig, parseMethodDescriptor xi.desc = some sig → argsL.length = sig.parameters.length) (hst : st = argsL.reverse ++ .ref a :: rest) (hW : (rest.map fun v => v.category).sum ≤ W)
    (hd : decode bytes pc = .ok (.invokeinterface index count, 5)) (hq : pc + 5 = q) : Call Z p l e R s m args below meth c vm h y 5 W (.ref a :: argsL).toArray (mkF m pc Ls st) (fun v => mkF m q Ls (v.toList ++ rest)) := by
  subst hq hst
  intro hZ T locs cells slots X eT
  have hZ' : Z.Warmed39 (s.setVm vm).vm := hZ
  obtain ⟨cB, kB, i1, i2, i3⟩ := isOf (s := s.setVm vm) hZ' eT E
  refine ⟨fun {Pre Post} hK hpre => ?_, fun {Pre Post} hK hpre => ?_⟩
  · obtain ⟨v, vm₁, B', -, X', hP, st'⟩ := X.interfaceBack B.1 (B.fc hZ) (mvT hZ' w1) (mvT hZ' w2) (mvT hZ' w3 hw3) (mvT hZ' w4) (mvT hZ' w5) (mvT hZ' w6) (mvT hZ' w7) (mvT hZ' w8) hy hK i1 i2 i3 (g := mkF m pc Ls (argsL.reverse ++ .ref a :: rest)) rfl (hs.trans B.2.2.1.symm) (Steps.refl _) hlen rfl (by show 2 * 0 + _ ≤ W; omega) (B.d hd) hpre
    exact ⟨v, vm₁, B', X', hP, st'⟩
  · obtain ⟨v, vm₁, B', -, X', h1, h2, hP, st'⟩ := X.interfaceBackS B.1 (B.fc hZ) (mvT hZ' w1) (mvT hZ' w2) (mvT hZ' w3 hw3) (mvT hZ' w4) (mvT hZ' w5) (mvT hZ' w6) (mvT hZ' w7) (mvT hZ' w8) hy hK i1 i2 i3 (g := mkF m pc Ls (argsL.reverse ++ .ref a :: rest)) rfl (hs.trans B.2.2.1.symm) (Steps.refl _) hlen rfl (by show 2 * 0 + _ ≤ W; omega) (B.d hd) hpre
    exact ⟨v, vm₁, B', X', h1, h2, hP, st'⟩
theorem nfs {y z : MethodName} {K : String} (w3 : (Cond.selects K y y).before a0 Z = true) : ∀ s' : State, Z.Warmed39 s'.vm → NotFace s' y := fun s' hZ => notFace_of_selects (args := #[]) (mvT hZ w3)
theorem nfc {y z x' : MethodName} {K : String} (w3 : (Cond.selects K x' z).before a0 Z = true) (hz : z.cls = y.cls) : ∀ s' : State, Z.Warmed39 s'.vm → NotFace s' y := fun s' hZ r0 h0 => by
  obtain ⟨c2, r2, m2, q1, q2, q3, q4, kP, hkP, hkPi⟩ := Cond.selects_spec (mvT hZ w3 (args := #[]))
  have e1 := findClass_of_methodNamed q3
  have e2 := findClass_of_methodNamed h0
  rw [hz] at e1
  have e := Option.some.inj (e1.symm.trans e2)
  exact ⟨kP, e ▸ hkP, hkPi⟩
/-- a class that some class selects a method of is no interface: its own method is found under its name -/
theorem sameM {y z x' : MethodName} {K : String} (w2 : (Cond.instanceMethod y).before a0 Z = true) (w3 : (Cond.selects K x' z).before a0 Z = true) (hz : z.cls = y.cls) (hy : y.cls ≠ "java/lang/invoke/MethodHandle" ∧ y.cls ≠ "java/lang/invoke/VarHandle") : (Cond.sameMethod y.cls y.cls y.name y.desc).before a0 Z = true := by
  obtain ⟨mk, methM, hnamed, -⟩ := Cond.instanceMethod_spec w2
  obtain ⟨c2, r2, m2, q1, q2, q3, q4, kP, hkP, hkPi⟩ := Cond.selects_spec w3
  have e1 := findClass_of_methodNamed q3
  have e2 := findClass_of_methodNamed hnamed
  rw [hz] at e1
  have e := Option.some.inj (e1.symm.trans e2)
  have hf := State.methodFound?_of_named hnamed hy
  have hn' : Z.methodNamed? ⟨y.cls, y.name, y.desc⟩ = some mk := hnamed
  rw [e] at hkP
  simp [Cond.before, Cond.holds, Cond.value, e2, hf, hn', hkP, hkPi]
theorem c_super {a : Addr} {K : String} (B : Ctx Z a0 EL p m meth c own bytes ml ret nm) (E : Exa Z h a K) (w1 : (Cond.methodLink own index y).before a0 Z = true) (w2 : (Cond.sameMethod y.cls y.cls y.name y.desc).before a0 Z = true) (w3 : (Cond.instanceMethod y).before a0 Z = true) (w4 : (Cond.superclass own y.cls).before a0 Z = true) (hn : y.name ≠ "<init>") (wc : (Cond.code y bs mL rt).before a0 Z = true)
    (hs : Ls.size = ml) (hlen : ∀ sig, parseMethodDescriptor y.desc = some sig → argsL.length = sig.parameters.length) (hst : st = argsL.reverse ++ .ref a :: rest) (hW : (rest.map fun v => v.category).sum ≤ W)
    (hd : decode bytes pc = .ok (.invokespecial index, 3)) (hq : pc + 3 = q) : Call Z p l e R s m args below meth c vm h y 3 W (.ref a :: argsL).toArray (mkF m pc Ls st) (fun v => mkF m q Ls (v.toList ++ rest)) := by
  subst hq hst
  intro hZ T locs cells slots X eT
  have hZ' : Z.Warmed39 (s.setVm vm).vm := hZ
  refine ⟨fun {Pre Post} hK hpre => ?_, fun {Pre Post} hK hpre => ?_⟩
  · obtain ⟨v, vm₁, B', -, X', hP, st'⟩ := superBack X B.1 hZ' (B.fc hZ) w1 w2 w3 w4 hn hK eT (Ins.self E) (g := mkF m pc Ls (argsL.reverse ++ .ref a :: rest)) rfl (hs.trans B.2.2.1.symm) wc hlen rfl (by show 2 * 0 + _ ≤ W; omega) (B.d hd) hpre
    exact ⟨v, vm₁, B', X', hP, st'⟩
  · obtain ⟨v, vm₁, B', -, X', h1, h2, hP, st'⟩ := superBackS X B.1 hZ' (B.fc hZ) w1 w2 w3 w4 hn hK eT (Ins.self E) (g := mkF m pc Ls (argsL.reverse ++ .ref a :: rest)) rfl (hs.trans B.2.2.1.symm) wc hlen rfl (by show 2 * 0 + _ ≤ W; omega) (B.d hd) hpre
    exact ⟨v, vm₁, B', X', h1, h2, hP, st'⟩
end CallSites
/-- a call that a law of the library's form pays -/
theorem g_pay {y : MethodName} {len W k n : Nat} {as : Array Value} {G : Option Value → JFrame} {Q' : Option Value → Heap → List Loc → Prop} (hc : Call Z p l e R s m args below meth c vm h y len W as g G)
    (hK : Z.Warmed39 (s.setVm vm).vm → Back l R p e below (s.setVm vm) args y len W (fun A a => a = as ∧ A.U.heap = h ∧ A.cells + k ≤ R.cells ∧ A.slots + n ≤ R.slots) (fun A _ v B => ∃ L, Q' v B.U.heap L ∧ B.locs = A.locs ++ L ∧ B.cells = A.cells + k ∧ B.slots = A.slots + n))
    (hcl : cells + k ≤ R.cells) (hsl : slots + n ≤ R.slots) (hF : ∀ v h' L, Q' v h' L → Fr n0 L ∧ ∃ ws, Keep h h' ws ∧ ∀ x ∈ ws, Safe Z EL vm h x)
    (kk : ∀ v h' L, Q' v h' L → Go wd Z EL p l e R s m args below meth c n0 C N Q vm h' (cells + k) (slots + n) (G v)) : Go wd Z EL p l e R s m args below meth c n0 C N Q vm h cells slots g := by
  intro W T locs X eT F
  obtain ⟨v, vm₁, ⟨U, L', k', n'⟩, X', ⟨L, hQ, e1, e2, e3⟩, st⟩ := (hc W.1 T locs cells slots X eT).1 (hK W.1) (fun vm₁ _ => ⟨rfl, eT, hcl, hsl⟩)
  dsimp only [Pt.U, Pt.locs, Pt.cells, Pt.slots] at X' hQ e1 e2 e3 st
  subst e1 e2 e3
  obtain ⟨F', ws, K, S⟩ := hF _ _ _ hQ
  obtain ⟨s₂, o, h1, r⟩ := kk v U.heap L hQ (W.keep S K) U _ X' rfl (Fr.app F F')
  exact ⟨s₂, o, st.trans h1, r⟩
/-- a call that a contract pays -/
theorem g_met {y : MethodName} {len W mL : Nat} {bs : ByteArray} {rt : Option FieldType} {rm : Room} {as : Array Value} {sf : List Addr} {G : Option Value → JFrame} {Q' : Option Value → Heap → Prop} (hEL : EW Z a0 EL) (hc : Call Z p l e R s m args below meth c vm h y len W as g G)
    (hM : Met wd Z EL l y bs mL rt rm as h sf n0 Q') (wc : (Cond.code y bs mL rt).before a0 Z = true) (wz : (Cond.initialized y.cls).before a0 Z = true) (hf : rm.frames + 1 ≤ R.frames) (hl : W + (mL + 11) + rm.locals ≤ R.locals)
    (hcl : cells + rm.cells ≤ R.cells) (hsl : slots + rm.slots ≤ R.slots) (hsf : ∀ x ∈ sf, Safe Z EL vm h x ∧ x < h.size)
    (kk : ∀ v h' vm', Z.Warmed39 vm' → CHr Z EL vm h vm' h' → Q' v h' → Go wd Z EL p l e R s m args below meth c n0 C N Q vm' h' (cells + rm.cells) (slots + rm.slots) (G v)) : Go wd Z EL p l e R s m args below meth c n0 C N Q vm h cells slots g := by
  intro Wt0 T locs X eT F
  obtain ⟨hZ, ⟨k0, hS, hk⟩, hR, hw⟩ := Wt0
  have hZ' : Z.Warmed39 (s.setVm vm).vm := hZ
  cases wd with
  | false =>
    obtain ⟨hv, rfl⟩ := hw rfl
    have hK : Back l R p e below (s.setVm vm) args y len W (fun A a => a = as ∧ A.U.heap = h ∧ A.cells + rm.cells ≤ R.cells ∧ A.slots + rm.slots ≤ R.slots) (fun A _ v B => ∃ L, (Q' v B.U.heap ∧ Fr n0 L ∧ h.size ≤ B.U.heap.size) ∧ B.locs = A.locs ++ L ∧ B.cells = A.cells + rm.cells ∧ B.slots = A.slots + rm.slots) :=
      Back.of_free (bytes := bs) (maxL := mL) (ret := rt) (E := fun _ U o t L k n => k = rm.cells ∧ n = rm.slots ∧ ∃ v, o = .returned v ∧ Q' v t.heap ∧ Fr n0 L ∧ U.heap.size ≤ t.heap.size) (hM []) hf hl
        (fun m meth c A a Y hp => have hU : Z.Warmed39 A.U.vm := wtrans hZ' Y.warmed
          ⟨by show (Cond.and _ .tt).before a A.U = true; rw [Cond.before_and, mv hU wc]; rfl, mv hU wc, mv hU wz, hp.2.2.1, hp.2.2.2⟩)
        (fun m meth c A a g mk Y hp => ⟨hp.1, wtrans hZ' Y.warmed, hp.2.1, fun _ q => (nomatch q), fun x hx => nos⟩) (fun _ _ _ _ _ _ _ _ _ => trivial)
        (fun _ _ _ _ ⟨v, L, h1, h2, h3, h4, h5⟩ => ⟨L, _, _, h5 rfl, rfl, rfl, v, h1, h2.1, h2.2, h3.2.1⟩)
        (fun m meth c A a g mk v t L k n Y hp _ _ ⟨e1, e2, v', e3, e4, e5, e6⟩ => by
          cases e3; subst e1 e2; exact ⟨L, ⟨e4, e5, by rw [← hp.2.1]; exact e6⟩, rfl, rfl, rfl⟩)
    obtain ⟨v, vm₁, ⟨U, L', k', n'⟩, X', ⟨L, ⟨hQ, F', hsz⟩, e1, e2, e3⟩, st⟩ := (hc hZ T locs cells slots X eT).1 hK (fun vm₁ _ => ⟨rfl, eT, hcl, hsl⟩)
    dsimp only [Pt.U, Pt.locs, Pt.cells, Pt.slots] at X' hQ e1 e2 e3 st hsz
    subst e1 e2 e3
    have hC : CHr Z [] vm h vm U.heap := ⟨fun _ q => (nomatch q), hsz, fun y q => absurd q (nos (vm := vm) (h := U.heap))⟩
    obtain ⟨s₂, o, h1, r⟩ := kk v U.heap vm hZ hC hQ ⟨hZ, ⟨k0, hS, Nat.le_trans hk hsz⟩, hR.trans hC, hw⟩ U _ X' rfl (Fr.app F F')
    exact ⟨s₂, o, st.trans h1, r⟩
  | true =>
    have hK : BackS l R p e below (s.setVm vm) args y len W (fun A a => a = as ∧ A.U.heap = h ∧ A.cells + rm.cells ≤ R.cells ∧ A.slots + rm.slots ≤ R.slots) (fun A _ v B => ∃ L, (Q' v B.U.heap ∧ Fr n0 L ∧ CHr Z EL vm h B.U.vm B.U.heap) ∧ B.locs = A.locs ++ L ∧ B.cells = A.cells + rm.cells ∧ B.slots = A.slots + rm.slots) :=
      BackS.of_freeW (bytes := bs) (maxL := mL) (ret := rt) (E := fun _ first o t L k n => k = rm.cells ∧ n = rm.slots ∧ (∃ v, o = .returned v ∧ Q' v t.heap ∧ Fr n0 L) ∧ CHr Z EL first.vm first.heap t.vm t.heap) (hM []) hf hl
        (fun m meth c A a Y hp => have hU : Z.Warmed39 A.U.vm := wtrans hZ' Y.warmed
          ⟨by show (Cond.and _ .tt).before a A.U = true; rw [Cond.before_and, mv hU wc]; rfl, mv hU wc, mv hU wz, hp.2.2.1, hp.2.2.2⟩)
        (fun m meth c A a g mk Y hp => have q := CHv.at Y hZ hEL hR.1; ⟨hp.1, wtrans hZ' Y.warmed, hp.2.1, q.1, fun x hx => q.safe (hsf x hx).2 (hsf x hx).1⟩) (fun _ _ _ _ _ _ _ _ _ => trivial)
        (fun _ _ _ _ ⟨v, L, h1, h2, h3, h4, h5⟩ => ⟨L, _, _, h4, rfl, rfl, ⟨v, h1, h2.1, h2.2⟩, h3⟩)
        (fun m meth c A a g mk v t L k n Y hp _ _ ⟨e1, e2, ⟨v', e3, e4, e4'⟩, e5⟩ => by
          cases e3; subst e1 e2
          refine ⟨L, ⟨e4, e4', (CHv.at Y hZ hEL hR.1).trans ?_⟩, rfl, rfl, rfl⟩
          rw [← hp.2.1]; exact e5)
    obtain ⟨v, vm₁, ⟨U, L', k', n'⟩, X', hS2, hgr, ⟨L, ⟨hQ, F', hC⟩, e1, e2, e3⟩, st⟩ := (hc hZ T locs cells slots X eT).2 hK (fun vm₁ _ => ⟨rfl, eT, hcl, hsl⟩)
    dsimp only [Pt.U, Pt.locs, Pt.cells, Pt.slots] at X' hQ e1 e2 e3 st hS2 hgr hC
    subst e1 e2 e3
    rw [eT] at hgr
    have hZ2 : Z.Warmed39 U.vm := State.Warmed39.trans (t := s.setVm vm) hZ hS2.1
    obtain ⟨s₂, o, h1, r⟩ := kk v U.heap U.vm hZ2 hC hQ ⟨hZ2, ⟨_, hS.trans hS2 (Nat.le_trans hk hgr), Nat.le_refl _⟩, hR.trans hC, fun q => (nomatch q)⟩ U _ X' rfl (Fr.app F F')
    exact ⟨s₂, o, st.trans h1, r⟩
/-- the same, narrow: the tables stay the start's -/
theorem g_metN {y : MethodName} {len W mL : Nat} {bs : ByteArray} {rt : Option FieldType} {rm : Room} {as : Array Value} {sf : List Addr} {G : Option Value → JFrame} {Q' : Option Value → Heap → Prop} (hc : Call Z p l e R s m args below meth c vm h y len W as g G)
    (hM : Met false Z [] l y bs mL rt rm as h sf n0 Q') (wc : (Cond.code y bs mL rt).before a0 Z = true) (wz : (Cond.initialized y.cls).before a0 Z = true) (hf : rm.frames + 1 ≤ R.frames) (hl : W + (mL + 11) + rm.locals ≤ R.locals)
    (hcl : cells + rm.cells ≤ R.cells) (hsl : slots + rm.slots ≤ R.slots)
    (kk : ∀ v h', h.size ≤ h'.size → Q' v h' → Go false Z [] p l e R s m args below meth c n0 C N Q vm h' (cells + rm.cells) (slots + rm.slots) (G v)) : Go false Z [] p l e R s m args below meth c n0 C N Q vm h cells slots g := by
  intro Wt0 T locs X eT F
  obtain ⟨hZ, ⟨k0, hS, hk⟩, hR, hw⟩ := Wt0
  have hZ' : Z.Warmed39 (s.setVm vm).vm := hZ
  obtain ⟨hv, -⟩ := hw rfl
  have hK : Back l R p e below (s.setVm vm) args y len W (fun A a => a = as ∧ A.U.heap = h ∧ A.cells + rm.cells ≤ R.cells ∧ A.slots + rm.slots ≤ R.slots) (fun A _ v B => ∃ L, (Q' v B.U.heap ∧ Fr n0 L ∧ h.size ≤ B.U.heap.size) ∧ B.locs = A.locs ++ L ∧ B.cells = A.cells + rm.cells ∧ B.slots = A.slots + rm.slots) :=
    Back.of_free (bytes := bs) (maxL := mL) (ret := rt) (E := fun _ U o t L k n => k = rm.cells ∧ n = rm.slots ∧ ∃ v, o = .returned v ∧ Q' v t.heap ∧ Fr n0 L ∧ U.heap.size ≤ t.heap.size) (hM []) hf hl
      (fun m meth c A a Y hp => have hU : Z.Warmed39 A.U.vm := wtrans hZ' Y.warmed
        ⟨by show (Cond.and _ .tt).before a A.U = true; rw [Cond.before_and, mv hU wc]; rfl, mv hU wc, mv hU wz, hp.2.2.1, hp.2.2.2⟩)
      (fun m meth c A a g mk Y hp => ⟨hp.1, wtrans hZ' Y.warmed, hp.2.1, fun _ q => (nomatch q), fun x hx => nos⟩) (fun _ _ _ _ _ _ _ _ _ => trivial)
      (fun _ _ _ _ ⟨v, L, h1, h2, h3, h4, h5⟩ => ⟨L, _, _, h5 rfl, rfl, rfl, v, h1, h2.1, h2.2, h3.2.1⟩)
      (fun m meth c A a g mk v t L k n Y hp _ _ ⟨e1, e2, v', e3, e4, e5, e6⟩ => by
        cases e3; subst e1 e2; exact ⟨L, ⟨e4, e5, by rw [← hp.2.1]; exact e6⟩, rfl, rfl, rfl⟩)
  obtain ⟨v, vm₁, ⟨U, L', k', n'⟩, X', ⟨L, ⟨hQ, F', hsz⟩, e1, e2, e3⟩, st⟩ := (hc hZ T locs cells slots X eT).1 hK (fun vm₁ _ => ⟨rfl, eT, hcl, hsl⟩)
  dsimp only [Pt.U, Pt.locs, Pt.cells, Pt.slots] at X' hQ e1 e2 e3 st hsz
  subst e1 e2 e3
  have hC : CHr Z [] vm h vm U.heap := ⟨fun _ q => (nomatch q), hsz, fun y q => absurd q (nos (vm := vm) (h := U.heap))⟩
  obtain ⟨s₂, o, h1, r⟩ := kk v U.heap hsz hQ ⟨hZ, ⟨k0, hS, Nat.le_trans hk hsz⟩, hR.trans hC, hw⟩ U _ X' rfl (Fr.app F F')
  exact ⟨s₂, o, st.trans h1, r⟩
/-- a narrow contract pays a call in either frame; the tables stay -/
theorem g_metP {y : MethodName} {len W mL : Nat} {bs : ByteArray} {rt : Option FieldType} {rm : Room} {as : Array Value} {sf : List Addr} {G : Option Value → JFrame} {Q' : Option Value → Heap → Prop} (hc : Call Z p l e R s m args below meth c vm h y len W as g G)
    (hM : Met false Z [] l y bs mL rt rm as h sf n0 Q') (wc : (Cond.code y bs mL rt).before a0 Z = true) (wz : (Cond.initialized y.cls).before a0 Z = true) (hf : rm.frames + 1 ≤ R.frames) (hl : W + (mL + 11) + rm.locals ≤ R.locals)
    (hcl : cells + rm.cells ≤ R.cells) (hsl : slots + rm.slots ≤ R.slots) (hKp : ∀ v h', Q' v h' → ∃ ws, Keep h h' ws ∧ ∀ x ∈ ws, Safe Z EL vm h x)
    (kk : ∀ v h', h.size ≤ h'.size → Q' v h' → Go wd Z EL p l e R s m args below meth c n0 C N Q vm h' (cells + rm.cells) (slots + rm.slots) (G v)) : Go wd Z EL p l e R s m args below meth c n0 C N Q vm h cells slots g := by
  refine g_pay (Q' := fun v h' L => Q' v h' ∧ Fr n0 L ∧ h.size ≤ h'.size) hc (fun hZ' => ?_) hcl hsl (fun v h' L q => ⟨q.2.1, hKp v h' q.1⟩) (fun v h' L q => kk v h' q.2.2 q.1)
  exact Back.of_free (bytes := bs) (maxL := mL) (ret := rt) (E := fun _ U o t L k n => k = rm.cells ∧ n = rm.slots ∧ ∃ v, o = .returned v ∧ Q' v t.heap ∧ Fr n0 L ∧ U.heap.size ≤ t.heap.size) (hM []) hf hl
      (fun m meth c A a Y hp => have hU : Z.Warmed39 A.U.vm := wtrans hZ' Y.warmed
        ⟨by show (Cond.and _ .tt).before a A.U = true; rw [Cond.before_and, mv hU wc]; rfl, mv hU wc, mv hU wz, hp.2.2.1, hp.2.2.2⟩)
      (fun m meth c A a g mk Y hp => ⟨hp.1, wtrans hZ' Y.warmed, hp.2.1, fun _ q => (nomatch q), fun x hx => nos⟩) (fun _ _ _ _ _ _ _ _ _ => trivial)
      (fun _ _ _ _ ⟨v, L, h1, h2, h3, h4, h5⟩ => ⟨L, _, _, h5 rfl, rfl, rfl, v, h1, h2.1, h2.2, h3.2.1⟩)
      (fun m meth c A a g mk v t L k n Y hp _ _ ⟨e1, e2, v', e3, e4, e5, e6⟩ => by
        cases e3; subst e1 e2; exact ⟨L, ⟨e4, e5, by rw [← hp.2.1]; exact e6⟩, rfl, rfl, rfl⟩)
theorem catR {v : Value} (h : v.isRef = true) : v.category = 1 := by rcases ref_cases h with rfl | ⟨a, rfl⟩ <;> rfl
/-- a reference, which may be null, over a slot of one word -/
theorem stV {l : Array Slot} {i : Nat} {v : Value} (h : v.isRef = true) (ho : l[i]? = some .unset ∨ ∃ w, l[i]? = some (.val w) ∧ w.category = 1) : storeLocals l i v = some (l.setIfInBounds i (.val v)) := by
  rcases ho with ho | ⟨w, ho, hc⟩
  · exact XS.store1 ho (Or.inl rfl) (catR h)
  · exact XS.store1 ho (Or.inr ⟨w, rfl, hc⟩) (catR h)
theorem nb {x : Int32} (h : x = 0 ∨ x = 1) : narrow .boolean (.int x) = .int x ∧ fits .boolean (.int x) = true := by
  rcases h with rfl | rfl <;> exact ⟨rfl, rfl⟩
end Calc
end Jvm.Own
/- laws to paste: Road.backV, Road.eqW, narrow_ch (cut by pick.py; bodies as the Statement names them) -/
namespace Jvm.Pilot.@@N@@
namespace StrChars
open Jvm Sem ClassFile Op Lib Jvm.Stand Jvm.Free.XT Jvm.Free.ALB Jvm.Free.JM Jvm.Free
open Jvm.Lib.Cold (StaticIs)
/-- a char array whose places are chars -/
def Ch (a : Addr) (A : Cell) (U : State) : Prop := Arr .char a A U ∧ Typed .char A
theorem Ch.mv {a : Addr} {A : Cell} {U U' : State} (h : Ch a A U) (hal : U.vm.Alike U'.vm) (hh : U'.heap = U.heap) : Ch a A U' := ⟨h.1.mv hal hh, h.2⟩
theorem Ch.keep {a : Addr} {A : Cell} {U U' : State} (h : Ch a A U) (hal : U.vm.Alike U'.vm) (hk : U'.heap[a]? = some A) : Ch a A U' := ⟨h.1.keep hal hk, h.2⟩
/-- what place i of a char[]'s cell holds -/
def cv (A : Cell) (i : Nat) : Int32 := match A.slots[i]? with | some (.int x) => x | _ => 0
theorem Ch.get {a : Addr} {A : Cell} {U : State} (h : Ch a A U) {i : Nat} (hi : i < A.slots.size) : A.slots[i]? = some (.int (cv A i)) := by
  have e := Array.getElem?_eq_getElem hi
  have f := h.2 i _ e
  unfold cv; rw [e]
  generalize A.slots[i] = v at f
  cases v <;> simp [fits] at f ⊢
/-- the byte that i2b leaves of a char -/
def lo8 (x : Int32) : Int32 := x.toInt8.toInt32
theorem fits_lo8 (y : Int32) : fits .byte (.int (lo8 y)) = true := by
  have h1 := y.toInt8.le_toInt
  have h2 := y.toInt8.toInt_lt
  simp only [lo8, fits, Bool.and_eq_true, decide_eq_true_eq, Int32.le_iff_toInt_le, Int8.toInt_toInt32, show (-128 : Int32).toInt = -128 from by decide, show (127 : Int32).toInt = 127 from by decide]
  omega
/-- A' is A but that each place j of lo .. hi - 1 holds f j -/
def Laid (A A' : Cell) (lo hi : Nat) (f : Nat → Value) : Prop := A'.cls = A.cls ∧ A'.vm = A.vm ∧ A'.slots.size = A.slots.size ∧ ∀ i, A'.slots[i]? = if lo ≤ i ∧ i < hi then some (f i) else A.slots[i]?
theorem Laid.zero (A : Cell) (lo : Nat) (f : Nat → Value) : Laid A A lo (lo + 0) f := ⟨rfl, rfl, rfl, fun i => by rw [if_neg (by omega)]⟩
theorem Laid.step {A Ak : Cell} {lo k : Nat} {f : Nat → Value} {v : Value} (h : Laid A Ak lo k f) (hlo : lo ≤ k) (hk : k < Ak.slots.size) (hv : v = f k) : Laid A (Ak.setSlot k v) lo (k + 1) f := by
  refine ⟨h.1, h.2.1, by simpa [Cell.setSlot] using h.2.2.1, fun i => ?_⟩
  by_cases e : k = i
  · subst e; rw [Cell.slots_setSlot_self v hk, if_pos (by omega), hv]
  · rw [Cell.slots_setSlot_ne v e, h.2.2.2 i]
    by_cases q : lo ≤ i ∧ i < k
    · rw [if_pos q, if_pos (by omega)]
    · rw [if_neg q, if_neg (by omega)]
def U16 : String := "java/lang/StringUTF16"
namespace Cmp5
def yN : MethodName := ⟨"java/lang/StringUTF16", "compress", "([CI[BII)I"⟩
abbrev yB : ByteArray := jdk_52_method_21_code
theorem d0 : decode yB 0 = .ok (.iconst 0, 1) := by decide +kernel
theorem d1 : decode yB 1 = .ok (.istore 5, 2) := by decide +kernel
theorem d3 : decode yB 3 = .ok (.iload 5, 2) := by decide +kernel
theorem d5 : decode yB 5 = .ok (.iload 4, 2) := by decide +kernel
theorem d7 : decode yB 7 = .ok (.if_icmp (.ge) 37, 3) := by decide +kernel
theorem d10 : decode yB 10 = .ok (.aload_n 0, 1) := by decide +kernel
theorem d11 : decode yB 11 = .ok (.iload_n 1, 1) := by decide +kernel
theorem d12 : decode yB 12 = .ok (.caload, 1) := by decide +kernel
theorem d13 : decode yB 13 = .ok (.istore 6, 2) := by decide +kernel
theorem d15 : decode yB 15 = .ok (.iload 6, 2) := by decide +kernel
theorem d17 : decode yB 17 = .ok (.sipush 255, 3) := by decide +kernel
theorem d20 : decode yB 20 = .ok (.if_icmp (.le) 6, 3) := by decide +kernel
theorem d26 : decode yB 26 = .ok (.aload_n 2, 1) := by decide +kernel
theorem d27 : decode yB 27 = .ok (.iload_n 3, 1) := by decide +kernel
theorem d28 : decode yB 28 = .ok (.iload 6, 2) := by decide +kernel
theorem d30 : decode yB 30 = .ok (.i2b, 1) := by decide +kernel
theorem d31 : decode yB 31 = .ok (.bastore, 1) := by decide +kernel
theorem d32 : decode yB 32 = .ok (.iinc 1 1, 3) := by decide +kernel
theorem d35 : decode yB 35 = .ok (.iinc 3 1, 3) := by decide +kernel
theorem d38 : decode yB 38 = .ok (.iinc 5 1, 3) := by decide +kernel
theorem d41 : decode yB 41 = .ok (.goto (-38), 3) := by decide +kernel
theorem d44 : decode yB 44 = .ok (.iload 4, 2) := by decide +kernel
theorem d46 : decode yB 46 = .ok (.ireturn, 1) := by decide +kernel
def site : List Cond := []
def tab : Cond := tabOf yN yB 7 (some .int) site
def P (b : Addr) (A : Cell) (d : Addr) (B : Cell) (o q len : Nat) (args : Array Value) (s : State) : Prop := args = #[.ref b, .int (Int32.ofNat o), .ref d, .int (Int32.ofNat q), .int (Int32.ofNat len)] ∧ Ch b A s ∧ Arr .byte d B s ∧ b ≠ d ∧ o + len ≤ A.slots.size ∧ q + len ≤ B.slots.size ∧ ∀ i, i < len → ¬ 255 < cv A (o + i)
def E (b : Addr) (A : Cell) (d : Addr) (B : Cell) (o q len : Nat) (r : Option Value) (s u : State) : Prop := r = some (.int (Int32.ofNat len)) ∧ ∃ B', Put d B' s u ∧ Laid B B' q (q + len) (fun j => Value.int (lo8 (cv A (o + (j - q)))))
/-- no char of the range above 255: len; the places written hold each char's low byte -/
theorem law (l : Launch) (b : Addr) (A : Cell) (d : Addr) (B : Cell) (o q len : Nat) : Law l yN 5 5 0 0 yB 7 (some .int) site (P b A d B o q len) (E b A d B o q len) (copyLocs d q len) 0 0 := by
  refine Law.of_walk (plainFor_of_name (by decide +kernel)) (by decide +kernel) (by decide +kernel) (by decide) (fun _ _ h => by rw [h.1]; rfl) (fun _ U U' hal hh h => ⟨h.1, h.2.1.mv hal hh, h.2.2.1.mv hal hh, h.2.2.2⟩) (fun r U U' V V' h1 hal h2 h => ⟨h.1, h.2.elim fun B' q => ⟨B', q.1.mv h1 h2, q.2⟩⟩) ?_
  intro p e s m args below meth c s₁ X0 hexec hbytes hml hret hlk hnm hown hh0 W hP
  obtain ⟨rfl, hA, hB, hne, l1, l2, hp⟩ := hP
  have c1 : Steps p.tables e below (s₁.setTop (entryFrame m #[.ref b, .int (Int32.ofNat o), .ref d, .int (Int32.ofNat q), .int (Int32.ofNat len)] 7)) (s₁.setTop (mkF m 0 #[.val (.ref b), .val (.int (Int32.ofNat o)), .val (.ref d), .val (.int (Int32.ofNat q)), .val (.int (Int32.ofNat len)), .unset, .unset] [])) := entry rfl
  have hA0 := hA.1.mv X0.warmed.alike hh0
  have hB0 := hB.mv X0.warmed.alike hh0
  have a31 := hA.1.2.2.2
  have c2 : Steps p.tables e below (s₁.setTop (entryFrame m #[.ref b, .int (Int32.ofNat o), .ref d, .int (Int32.ofNat q), .int (Int32.ofNat len)] 7)) (s₁.setTop (mkF m 3 #[.val (.ref b), .val (.int (Int32.ofNat o)), .val (.ref d), .val (.int (Int32.ofNat q)), .val (.int (Int32.ofNat len)), .val (.int 0), .unset] [])) := c1.trans (by
    refine iconstV X0.here hexec rfl 0 (hb hbytes d0) (by decide) ?_
    refine XS.istore X0.here hexec rfl (hb hbytes d1) rfl rfl ?_
    exact Steps.refl _)
  have loop : ∀ (r i : Nat), i + r = len → ∀ (z : Slot), (z = .unset ∨ ∃ w, z = .val w ∧ w.category = 1) → ∀ (Tl : State) (Bk : Cell), Stand p l e { frames := 0, locals := 0, cells := 0, slots := 0 } s m #[.ref b, .int (Int32.ofNat o), .ref d, .int (Int32.ofNat q), .int (Int32.ofNat len)] below meth c Tl ([] ++ copyLocs d q i) 0 0 → Put d Bk s₁ Tl → Laid B Bk q (q + i) (fun j => Value.int (lo8 (cv A (o + (j - q))))) →
      Steps p.tables e below (s₁.setTop (entryFrame m #[.ref b, .int (Int32.ofNat o), .ref d, .int (Int32.ofNat q), .int (Int32.ofNat len)] 7)) (Tl.setTop (mkF m 3 #[.val (.ref b), .val (.int (Int32.ofNat (o + i))), .val (.ref d), .val (.int (Int32.ofNat (q + i))), .val (.int (Int32.ofNat len)), .val (.int (Int32.ofNat i)), z] [])) → ∃ (T' : State) (B' : Cell) (z' : Slot), Stand p l e { frames := 0, locals := 0, cells := 0, slots := 0 } s m #[.ref b, .int (Int32.ofNat o), .ref d, .int (Int32.ofNat q), .int (Int32.ofNat len)] below meth c T' ([] ++ copyLocs d q len) 0 0 ∧ Put d B' s₁ T' ∧ Laid B B' q (q + len) (fun j => Value.int (lo8 (cv A (o + (j - q))))) ∧
      Steps p.tables e below (s₁.setTop (entryFrame m #[.ref b, .int (Int32.ofNat o), .ref d, .int (Int32.ofNat q), .int (Int32.ofNat len)] 7)) (T'.setTop (mkF m 3 #[.val (.ref b), .val (.int (Int32.ofNat (o + len))), .val (.ref d), .val (.int (Int32.ofNat (q + len))), .val (.int (Int32.ofNat len)), .val (.int (Int32.ofNat len)), z'] [])) := by
    intro r
    induction r with
    | zero =>
      intro i hi z hz Tl Bk Xl pl fl cl
      have hil : i = len := by omega
      rw [hil] at Xl fl cl
      exact ⟨Tl, Bk, z, Xl, pl, fl, cl⟩
    | succ r ih =>
      intro i hi z hz Tl Bk Xl pl fl cl
      have all := X0.warmed.alike.symm.trans Xl.warmed.alike
      have hAl := hA0.keep all (pl.other hne hA0.1)
      have hBk := hB0.like all pl.1 fl.1 fl.2.1 fl.2.2.1
      have hlt : q + i < Bk.slots.size := by rw [fl.2.2.1]; omega
      have c3 : Steps p.tables e below (s₁.setTop (entryFrame m #[.ref b, .int (Int32.ofNat o), .ref d, .int (Int32.ofNat q), .int (Int32.ofNat len)] 7)) (Tl.setTop (mkF m 12 #[.val (.ref b), .val (.int (Int32.ofNat (o + i))), .val (.ref d), .val (.int (Int32.ofNat (q + i))), .val (.int (Int32.ofNat len)), .val (.int (Int32.ofNat i)), z] [.int (Int32.ofNat (o + i)), .ref b])) := cl.trans (by
        refine XS.iload Xl.here hexec rfl (hb hbytes d3) rfl ?_
        refine XS.iload Xl.here hexec rfl (hb hbytes d5) rfl ?_
        refine XS.icmpNo Xl.here hexec rfl (hb hbytes d7) rfl (ii_ge_f (lt32 (by omega) (by omega))) ?_
        refine XS.aloadN Xl.here hexec rfl (hb hbytes d10) rfl rfl ?_
        refine XS.iloadN Xl.here hexec rfl (hb hbytes d11) rfl ?_
        exact Steps.refl _)
      have c4 : Steps p.tables e below (s₁.setTop (entryFrame m #[.ref b, .int (Int32.ofNat o), .ref d, .int (Int32.ofNat q), .int (Int32.ofNat len)] 7)) (Tl.setTop (mkF m 13 #[.val (.ref b), .val (.int (Int32.ofNat (o + i))), .val (.ref d), .val (.int (Int32.ofNat (q + i))), .val (.int (Int32.ofNat len)), .val (.int (Int32.ofNat i)), z] [.int (cv A (o + i))])) := c3.trans (by
        refine Xl.aget hexec hAl rfl (hA.get (i := o + i) (by omega)) rfl rfl (hb hbytes d12) ?_
        exact Steps.refl _)
      have c5 : Steps p.tables e below (s₁.setTop (entryFrame m #[.ref b, .int (Int32.ofNat o), .ref d, .int (Int32.ofNat q), .int (Int32.ofNat len)] 7)) (Tl.setTop (mkF m 15 #[.val (.ref b), .val (.int (Int32.ofNat (o + i))), .val (.ref d), .val (.int (Int32.ofNat (q + i))), .val (.int (Int32.ofNat len)), .val (.int (Int32.ofNat i)), .val (.int (cv A (o + i)))] [])) := c4.trans (by
        refine XS.istoreS Xl.here hexec rfl (hb hbytes d13) rfl rfl hz ?_
        exact Steps.refl _)
      have c6 : Steps p.tables e below (s₁.setTop (entryFrame m #[.ref b, .int (Int32.ofNat o), .ref d, .int (Int32.ofNat q), .int (Int32.ofNat len)] 7)) (Tl.setTop (mkF m 31 #[.val (.ref b), .val (.int (Int32.ofNat (o + i))), .val (.ref d), .val (.int (Int32.ofNat (q + i))), .val (.int (Int32.ofNat len)), .val (.int (Int32.ofNat i)), .val (.int (cv A (o + i)))] [.int (lo8 (cv A (o + i))), .int (Int32.ofNat (q + i)), .ref d])) := c5.trans (by
        refine XS.iload Xl.here hexec rfl (hb hbytes d15) rfl ?_
        refine sipushV Xl.here hexec rfl 255 (hb hbytes d17) (by decide) ?_
        refine XS.icmpYes Xl.here hexec rfl (pc0 := 20) rfl (hb hbytes d20) rfl (ii_le_t (hp i (by omega))) (by decide) rfl ?_
        refine XS.aloadN Xl.here hexec rfl (hb hbytes d26) rfl rfl ?_
        refine XS.iloadN Xl.here hexec rfl (hb hbytes d27) rfl ?_
        refine XS.iload Xl.here hexec rfl (hb hbytes d28) rfl ?_
        refine i2b Xl.here hexec rfl (hb hbytes d30) rfl ?_
        exact Steps.refl _)
      obtain ⟨T7, X7, p7, st7⟩ := Xl.aput hexec hBk rfl hlt rfl (fits_lo8 (cv A (o + i))) (g := (mkF m 31 #[.val (.ref b), .val (.int (Int32.ofNat (o + i))), .val (.ref d), .val (.int (Int32.ofNat (q + i))), .val (.int (Int32.ofNat len)), .val (.int (Int32.ofNat i)), .val (.int (cv A (o + i)))] [.int (lo8 (cv A (o + i))), .int (Int32.ofNat (q + i)), .ref d])) rfl (rest := []) rfl (hb hbytes d31)
      have c8 : Steps p.tables e below (s₁.setTop (entryFrame m #[.ref b, .int (Int32.ofNat o), .ref d, .int (Int32.ofNat q), .int (Int32.ofNat len)] 7)) (T7.setTop (mkF m 32 #[.val (.ref b), .val (.int (Int32.ofNat (o + i))), .val (.ref d), .val (.int (Int32.ofNat (q + i))), .val (.int (Int32.ofNat len)), .val (.int (Int32.ofNat i)), .val (.int (cv A (o + i)))] [])) := c6.trans (st7 _ (Steps.refl _))
      have c9 : Steps p.tables e below (s₁.setTop (entryFrame m #[.ref b, .int (Int32.ofNat o), .ref d, .int (Int32.ofNat q), .int (Int32.ofNat len)] 7)) (T7.setTop (mkF m 3 #[.val (.ref b), .val (.int (Int32.ofNat (o + i) + 1)), .val (.ref d), .val (.int (Int32.ofNat (q + i) + 1)), .val (.int (Int32.ofNat len)), .val (.int (Int32.ofNat i + 1)), .val (.int (cv A (o + i)))] [])) := c8.trans (by
        refine iincV X7.here hexec rfl 1 (hb hbytes d32) (by decide) rfl rfl ?_
        refine iincV X7.here hexec rfl 1 (hb hbytes d35) (by decide) rfl rfl ?_
        refine iincV X7.here hexec rfl 1 (hb hbytes d38) (by decide) rfl rfl ?_
        refine XS.goto X7.here hexec rfl (pc0 := 41) rfl (hb hbytes d41) (by decide) rfl ?_
        exact Steps.refl _)
      have c10 : Steps p.tables e below (s₁.setTop (entryFrame m #[.ref b, .int (Int32.ofNat o), .ref d, .int (Int32.ofNat q), .int (Int32.ofNat len)] 7)) (T7.setTop (mkF m 3 #[.val (.ref b), .val (.int (Int32.ofNat (o + (i + 1)))), .val (.ref d), .val (.int (Int32.ofNat (q + (i + 1)))), .val (.int (Int32.ofNat len)), .val (.int (Int32.ofNat (i + 1))), .val (.int (cv A (o + i)))] [])) := by
        have := c9
        rw [succ32, succ32, succ32] at this
        exact this
      exact ih (i + 1) (by omega) _ (Or.inr ⟨_, rfl, rfl⟩) T7 _ (by rw [copyLocs_step, ← List.append_assoc]; exact X7) (pl.trans p7) (fl.step (by omega) hlt (by simp)) c10
  obtain ⟨T9, B9, z9, X9, p9, f9, g9⟩ := loop len 0 (by omega) .unset (Or.inl rfl) s₁ B (by simpa [copyLocs] using X0) ⟨hB0.1, fun _ _ => rfl, rfl⟩ (Laid.zero _ _ _) c2
  have c11 : Steps p.tables e below (s₁.setTop (entryFrame m #[.ref b, .int (Int32.ofNat o), .ref d, .int (Int32.ofNat q), .int (Int32.ofNat len)] 7)) (T9.setTop (mkF m 46 #[.val (.ref b), .val (.int (Int32.ofNat (o + len))), .val (.ref d), .val (.int (Int32.ofNat (q + len))), .val (.int (Int32.ofNat len)), .val (.int (Int32.ofNat len)), z9] [.int (Int32.ofNat len)])) := g9.trans (by
    refine XS.iload X9.here hexec rfl (hb hbytes d3) rfl ?_
    refine XS.iload X9.here hexec rfl (hb hbytes d5) rfl ?_
    refine XS.icmpYes X9.here hexec rfl (pc0 := 7) rfl (hb hbytes d7) rfl (ii_ge_t (nlt32 (by omega) (Nat.le_refl _))) (by decide) rfl ?_
    refine XS.iload X9.here hexec rfl (hb hbytes d44) rfl ?_
    exact Steps.refl _)
  exact ⟨T9, some (.int (Int32.ofNat len)), _, _, _, X9, by simp, rfl, rfl, (fun h => by cases h), ⟨rfl, B9, p9.from hh0, f9⟩, fun fs hl => c11.trans (X9.ireturnOut hexec hret rfl (Or.inl rfl) (hb hbytes d46) hl)⟩
end Cmp5
namespace Cmp3
def yN : MethodName := ⟨"java/lang/StringUTF16", "compress", "([CII)[B"⟩
abbrev yB : ByteArray := jdk_52_method_16_code
theorem d0 : decode yB 0 = .ok (.iload_n 2, 1) := by decide +kernel
theorem d1 : decode yB 1 = .ok (.newarray .byte, 2) := by decide +kernel
theorem d3 : decode yB 3 = .ok (.astore_n 3, 1) := by decide +kernel
theorem d4 : decode yB 4 = .ok (.aload_n 0, 1) := by decide +kernel
theorem d5 : decode yB 5 = .ok (.iload_n 1, 1) := by decide +kernel
theorem d6 : decode yB 6 = .ok (.aload_n 3, 1) := by decide +kernel
theorem d7 : decode yB 7 = .ok (.iconst 0, 1) := by decide +kernel
theorem d8 : decode yB 8 = .ok (.iload_n 2, 1) := by decide +kernel
theorem d9 : decode yB 9 = .ok (.invokestatic 115, 3) := by decide +kernel
theorem d12 : decode yB 12 = .ok (.istore 4, 2) := by decide +kernel
theorem d14 : decode yB 14 = .ok (.iload 4, 2) := by decide +kernel
theorem d16 : decode yB 16 = .ok (.iload_n 2, 1) := by decide +kernel
theorem d17 : decode yB 17 = .ok (.if_icmp (.eq) 40, 3) := by decide +kernel
theorem d57 : decode yB 57 = .ok (.aload_n 3, 1) := by decide +kernel
theorem d58 : decode yB 58 = .ok (.areturn, 1) := by decide +kernel
def site : List Cond := [.arrayClass .byte, Cmp5.tab] ++ staticW U16 115 Cmp5.yN
def tab : Cond := tabOf yN yB 6 (some (.array .byte)) site
def P (b : Addr) (A : Cell) (o len : Nat) (args : Array Value) (s : State) : Prop := args = #[.ref b, .int (Int32.ofNat o), .int (Int32.ofNat len)] ∧ Ch b A s ∧ o + len ≤ A.slots.size ∧ len ≤ 536870912 ∧ ∀ i, i < len → ¬ 255 < cv A (o + i)
def E (b : Addr) (A : Cell) (o len : Nat) (r : Option Value) (s u : State) : Prop := NewArr .byte "[B" len (fun j => .int (lo8 (cv A (o + j)))) r s u ∧ u.heap.size = s.heap.size + 1
/-- no char of the range above 255: a new byte[] of their low bytes -/
theorem law (l : Launch) (b : Addr) (A : Cell) (o len : Nat) : Law l yN 3 3 1 18 yB 6 (some (.array .byte)) site (P b A o len) (E b A o len) [] 1 len := by
  refine Law.of_walk (plainFor_of_name (by decide +kernel)) (by decide +kernel) (by decide +kernel) (by decide) (fun _ _ h => by rw [h.1]; rfl) (fun _ U U' hal hh h => ⟨h.1, h.2.1.mv hal hh, h.2.2⟩) (fun r U U' V V' h1 hal h2 h => ⟨NewArr.mv r U U' V V' h1 hal h2 h.1, by rw [h1, h2]; exact h.2⟩) ?_
  intro p e s m args below meth c s₁ X0 hexec hbytes hml hret hlk hnm hown hh0 W hP
  obtain ⟨rfl, hA, l1, l2, hp⟩ := hP
  have a31 := hA.1.2.2.2
  have c1 : Steps p.tables e below (s₁.setTop (entryFrame m #[.ref b, .int (Int32.ofNat o), .int (Int32.ofNat len)] 6)) (s₁.setTop (mkF m 0 #[.val (.ref b), .val (.int (Int32.ofNat o)), .val (.int (Int32.ofNat len)), .unset, .unset, .unset] [])) := entry rfl
  have c2 : Steps p.tables e below (s₁.setTop (entryFrame m #[.ref b, .int (Int32.ofNat o), .int (Int32.ofNat len)] 6)) (s₁.setTop (mkF m 1 #[.val (.ref b), .val (.int (Int32.ofNat o)), .val (.int (Int32.ofNat len)), .unset, .unset, .unset] [.int (Int32.ofNat len)])) := c1.trans (by
    refine XS.iloadN X0.here hexec rfl (hb hbytes d0) rfl ?_
    exact Steps.refl _)
  obtain ⟨T3, B3, X3, ba3, bs3, bv3, bh3, bf3, st3⟩ := X0.anew hexec (atype := .byte) (wk W (.arrayClass .byte)) rfl (by show len * 1 ≤ _; omega) (by omega) (g := (mkF m 1 #[.val (.ref b), .val (.int (Int32.ofNat o)), .val (.int (Int32.ofNat len)), .unset, .unset, .unset] [.int (Int32.ofNat len)])) rfl (hb hbytes d1) (rest := []) rfl (Nat.le_refl _) (by show 0 + len ≤ len; omega)
  rw [hh0] at ba3 st3
  have kp3 : XT.Kept s T3 := (XT.Kept.of_eq hh0).push bh3
  have hA3 := hA.keep X3.warmed.alike (kp3 _ _ hA.1.1)
  have hne : b ≠ s.heap.size := hA.1.ne
  have c4 : Steps p.tables e below (s₁.setTop (entryFrame m #[.ref b, .int (Int32.ofNat o), .int (Int32.ofNat len)] 6)) (T3.setTop (mkF m 3 #[.val (.ref b), .val (.int (Int32.ofNat o)), .val (.int (Int32.ofNat len)), .unset, .unset, .unset] [.ref s.heap.size])) := c2.trans (st3 _ (Steps.refl _))
  have c5 : Steps p.tables e below (s₁.setTop (entryFrame m #[.ref b, .int (Int32.ofNat o), .int (Int32.ofNat len)] 6)) (T3.setTop (mkF m 9 #[.val (.ref b), .val (.int (Int32.ofNat o)), .val (.int (Int32.ofNat len)), .val (.ref s.heap.size), .unset, .unset] [.int (Int32.ofNat len), .int 0, .ref s.heap.size, .int (Int32.ofNat o), .ref b])) := c4.trans (by
    refine XS.astoreN X3.here hexec rfl (hb hbytes d3) rfl rfl rfl ?_
    refine XS.aloadN X3.here hexec rfl (hb hbytes d4) rfl rfl ?_
    refine XS.iloadN X3.here hexec rfl (hb hbytes d5) rfl ?_
    refine XS.aloadN X3.here hexec rfl (hb hbytes d6) rfl rfl ?_
    refine iconstV X3.here hexec rfl 0 (hb hbytes d7) (by decide) ?_
    refine XS.iloadN X3.here hexec rfl (hb hbytes d8) rfl ?_
    exact Steps.refl _)
  obtain ⟨v6, T6, X6, E6, g6⟩ := X3.callS hexec (Cmp5.law l b A s.heap.size B3 o 0 len) hown (wks W (staticW U16 115 Cmp5.yN)) (wk W Cmp5.tab) (W := 0) (Nat.le_of_ble_eq_true rfl) (Nat.le_of_ble_eq_true rfl) (Nat.le_refl _) (by show 0 + len + 0 ≤ len; omega) (g := (mkF m 9 #[.val (.ref b), .val (.int (Int32.ofNat o)), .val (.int (Int32.ofNat len)), .val (.ref s.heap.size), .unset, .unset] [.int (Int32.ofNat len), .int (Int32.ofNat 0), .ref s.heap.size, .int (Int32.ofNat o), .ref b])) rfl (by rw [hml]; rfl) c5 (argsL := [.ref b, .int (Int32.ofNat o), .ref s.heap.size, .int (Int32.ofNat 0), .int (Int32.ofNat len)]) (rest := []) rfl rfl (by show 2 * 0 + 0 ≤ _; decide) (hb hbytes d9) (⟨rfl, hA3, ba3, hne, l1, by rw [bs3]; simp, hp⟩)
  obtain ⟨rfl, B6, p6, f6⟩ := E6
  have c7 : Steps p.tables e below (s₁.setTop (entryFrame m #[.ref b, .int (Int32.ofNat o), .int (Int32.ofNat len)] 6)) (T6.setTop (mkF m 12 #[.val (.ref b), .val (.int (Int32.ofNat o)), .val (.int (Int32.ofNat len)), .val (.ref s.heap.size), .unset, .unset] [.int (Int32.ofNat len)])) := g6
  have c8 : Steps p.tables e below (s₁.setTop (entryFrame m #[.ref b, .int (Int32.ofNat o), .int (Int32.ofNat len)] 6)) (T6.setTop (mkF m 58 #[.val (.ref b), .val (.int (Int32.ofNat o)), .val (.int (Int32.ofNat len)), .val (.ref s.heap.size), .val (.int (Int32.ofNat len)), .unset] [.ref s.heap.size])) := c7.trans (by
    refine XS.istore X6.here hexec rfl (hb hbytes d12) rfl rfl ?_
    refine XS.iload X6.here hexec rfl (hb hbytes d14) rfl ?_
    refine XS.iloadN X6.here hexec rfl (hb hbytes d16) rfl ?_
    refine XS.icmpYes X6.here hexec rfl (pc0 := 17) rfl (hb hbytes d17) rfl (ii_eq_t rfl) (by decide) rfl ?_
    refine XS.aloadN X6.here hexec rfl (hb hbytes d57) rfl rfl ?_
    exact Steps.refl _)
  have X8 := X6.wide (L' := []) (cells' := 1) (slots' := len) (fun x hx hlt => by
    simp only [List.nil_append, copyLocs, List.mem_map, List.mem_range] at hx
    obtain ⟨i, -, rfl⟩ := hx
    exact absurd hlt (Nat.lt_irrefl _)) (Nat.le_refl _) (by omega)
  exact ⟨T6, some (.ref s.heap.size), _, _, _, X8, rfl, rfl, rfl, (fun h => by cases h), ⟨⟨rfl, B6, ba3.like (X3.warmed.alike.symm.trans X6.warmed.alike) p6.1 f6.1 f6.2.1 f6.2.2.1, f6.2.1.trans bv3, by rw [X6.warmed.alike.findClass, f6.1]; exact bf3, by rw [f6.2.2.1, bs3]; simp, fun j hj => by rw [f6.2.2.2 j, if_pos (by omega)]; rfl, kp3.put p6 (Nat.le_refl _)⟩, by rw [p6.2.2, bh3, hh0]; simp⟩, fun fs hl => c8.trans (X8.areturnOut hexec rfl hret rfl (hb hbytes d58) hl)⟩
end Cmp3
namespace CodL
def yN : MethodName := ⟨"java/lang/StringUTF16", "coderFromArrayLen", "([BI)B"⟩
abbrev yB : ByteArray := jdk_52_method_15_code
theorem d0 : decode yB 0 = .ok (.iload_n 1, 1) := by decide +kernel
theorem d1 : decode yB 1 = .ok (.aload_n 0, 1) := by decide +kernel
theorem d2 : decode yB 2 = .ok (.arraylength, 1) := by decide +kernel
theorem d3 : decode yB 3 = .ok (.isub, 1) := by decide +kernel
theorem d4 : decode yB 4 = .ok (.bipush 31, 2) := by decide +kernel
theorem d6 : decode yB 6 = .ok (.iushr, 1) := by decide +kernel
theorem d7 : decode yB 7 = .ok (.i2b, 1) := by decide +kernel
theorem d8 : decode yB 8 = .ok (.ireturn, 1) := by decide +kernel
def site : List Cond := []
def tab : Cond := tabOf yN yB 2 (some .byte) site
def P (d : Addr) (B : Cell) (args : Array Value) (s : State) : Prop := args = #[.ref d, .int (Int32.ofNat B.slots.size)] ∧ Arr .byte d B s
def E (r : Option Value) (s u : State) : Prop := XT.PureE (some (.int 0)) r s u
/-- an array as long as the number of chars: LATIN1 -/
theorem law (l : Launch) (d : Addr) (B : Cell) : Law l yN 2 2 0 0 yB 2 (some .byte) site (P d B) E [] 0 0 := by
  refine Law.of_walk (plainFor_of_name (by decide +kernel)) (by decide +kernel) (by decide +kernel) (by decide) (fun _ _ h => by rw [h.1]; rfl) (fun _ U U' hal hh h => ⟨h.1, h.2.mv hal hh⟩) (fun r U U' V V' h1 hal h2 h => XT.PureE.mv r U U' V V' h1 hal h2 h) ?_
  intro p e s m args below meth c s₁ X0 hexec hbytes hml hret hlk hnm hown hh0 W hP
  obtain ⟨rfl, hB⟩ := hP
  have hB0 := hB.mv X0.warmed.alike hh0
  have c1 : Steps p.tables e below (s₁.setTop (entryFrame m #[.ref d, .int (Int32.ofNat B.slots.size)] 2)) (s₁.setTop (mkF m 0 #[.val (.ref d), .val (.int (Int32.ofNat B.slots.size))] [])) := entry rfl
  have c2 : Steps p.tables e below (s₁.setTop (entryFrame m #[.ref d, .int (Int32.ofNat B.slots.size)] 2)) (s₁.setTop (mkF m 2 #[.val (.ref d), .val (.int (Int32.ofNat B.slots.size))] [.ref d, .int (Int32.ofNat B.slots.size)])) := c1.trans (by
    refine XS.iloadN X0.here hexec rfl (hb hbytes d0) rfl ?_
    refine XS.aloadN X0.here hexec rfl (hb hbytes d1) rfl rfl ?_
    exact Steps.refl _)
  have c3 : Steps p.tables e below (s₁.setTop (entryFrame m #[.ref d, .int (Int32.ofNat B.slots.size)] 2)) (s₁.setTop (mkF m 8 #[.val (.ref d), .val (.int (Int32.ofNat B.slots.size))] [.int (lo8 (ushr (Int32.ofNat B.slots.size - Int32.ofNat B.slots.size) 31))])) := c2.trans (by
    refine X0.alen hexec hB0 rfl rfl (hb hbytes d2) ?_
    refine XS.isub X0.here hexec rfl (hb hbytes d3) rfl ?_
    refine bipushV X0.here hexec rfl 31 (hb hbytes d4) (by decide) ?_
    refine iushr X0.here hexec rfl (hb hbytes d6) rfl ?_
    refine i2b X0.here hexec rfl (hb hbytes d7) rfl ?_
    exact Steps.refl _)
  have e0 : lo8 (ushr (Int32.ofNat B.slots.size - Int32.ofNat B.slots.size) 31) = 0 := by rw [Int32.sub_self]; decide
  rw [e0] at c3
  exact ⟨s₁, some (.int 0), _, _, _, X0, rfl, rfl, rfl, (fun h => by cases h), ⟨rfl, hh0⟩, fun fs hl => c3.trans (X0.ireturnOut hexec hret rfl (Or.inr (Or.inr (Or.inl rfl))) (hb hbytes d8) hl)⟩
end CodL
/-- the String at a is Latin-1 over a new byte[] (the heap's one new cell): the low bytes of the len chars of A from o on; every cell but a is kept -/
def Got (a : Addr) (D : Cell) (fV fC : Field) (A : Cell) (o len : Nat) (r : Option Value) (s u : State) : Prop := r = none ∧ ∃ D' V : Cell, Blank "java/lang/String" a D' u ∧ Same D D' [fV.slot, fC.slot] ∧ D'.slots[fV.slot]? = some (.ref s.heap.size) ∧ D'.slots[fC.slot]? = some (.int 0) ∧ Arr .byte s.heap.size V u ∧ V.vm = .none ∧ u.vm.findClass "[B" = some V.cls ∧ V.slots.size = len ∧ (∀ j, j < len → V.slots[j]? = some (.int (lo8 (cv A (o + j))))) ∧ (∀ (y : Addr) (c : Cell), y ≠ a → s.heap[y]? = some c → u.heap[y]? = some c) ∧ u.heap.size = s.heap.size + 1
theorem Got.mv {a : Addr} {D A : Cell} {fV fC : Field} {o len : Nat} : ∀ r (U U' V V' : State), U'.heap = U.heap → V.vm.Alike V'.vm → V'.heap = V.heap → Got a D fV fC A o len r U V → Got a D fV fC A o len r U' V' :=
  fun r U U' V V' h1 hal h2 ⟨e0, D', X, a1, a2, a3, a4, a5, a6, a7, a8, a9, a10, a11⟩ => ⟨e0, D', X, a1.mv hal h2, a2, by rw [h1]; exact a3, a4, by rw [h1]; exact a5.mv hal h2, a6, by rw [hal.findClass]; exact a7, a8, a9, by rw [h1, h2]; exact a10, by rw [h1, h2]; exact a11⟩
namespace New4
def yN : MethodName := ⟨"java/lang/String", "<init>", "([CIILjava/lang/Void;)V"⟩
abbrev yB : ByteArray := jdk_42_method_149_code
theorem d0 : decode yB 0 = .ok (.aload_n 0, 1) := by decide +kernel
theorem d1 : decode yB 1 = .ok (.invokespecial 1, 3) := by decide +kernel
theorem d4 : decode yB 4 = .ok (.iload_n 3, 1) := by decide +kernel
theorem d5 : decode yB 5 = .ok (.ifCond (.ne) 22, 3) := by decide +kernel
theorem d27 : decode yB 27 = .ok (.getstatic 38, 3) := by decide +kernel
theorem d30 : decode yB 30 = .ok (.ifCond (.eq) 28, 3) := by decide +kernel
theorem d33 : decode yB 33 = .ok (.aload_n 1, 1) := by decide +kernel
theorem d34 : decode yB 34 = .ok (.iload_n 2, 1) := by decide +kernel
theorem d35 : decode yB 35 = .ok (.iload_n 3, 1) := by decide +kernel
theorem d36 : decode yB 36 = .ok (.invokestatic 177, 3) := by decide +kernel
theorem d39 : decode yB 39 = .ok (.astore 5, 2) := by decide +kernel
theorem d41 : decode yB 41 = .ok (.aload_n 0, 1) := by decide +kernel
theorem d42 : decode yB 42 = .ok (.aload 5, 2) := by decide +kernel
theorem d44 : decode yB 44 = .ok (.iload_n 3, 1) := by decide +kernel
theorem d45 : decode yB 45 = .ok (.invokestatic 47, 3) := by decide +kernel
theorem d48 : decode yB 48 = .ok (.putfield 15, 3) := by decide +kernel
theorem d51 : decode yB 51 = .ok (.aload_n 0, 1) := by decide +kernel
theorem d52 : decode yB 52 = .ok (.aload 5, 2) := by decide +kernel
theorem d54 : decode yB 54 = .ok (.putfield 9, 3) := by decide +kernel
theorem d57 : decode yB 57 = .ok (.return_, 1) := by decide +kernel
def site : List Cond := [.fieldLink "java/lang/String" 38 "java/lang/String" "COMPACT_STRINGS" "Z", Cmp3.tab, CodL.tab, .laysFinal "java/lang/String" "java/lang/String" "value" "[B", .fieldLink "java/lang/String" 9 "java/lang/String" "value" "[B", .laysFinal "java/lang/String" "java/lang/String" "coder" "B", .fieldLink "java/lang/String" 15 "java/lang/String" "coder" "B"] ++ objW "java/lang/String" 1 ++ staticW "java/lang/String" 177 Cmp3.yN ++ staticW "java/lang/String" 47 CodL.yN
def tab : Cond := tabOf yN yB 6 none site
def P (a : Addr) (D : Cell) (fV fC : Field) (b : Addr) (A : Cell) (z : Int32) (o len : Nat) (args : Array Value) (s : State) : Prop := args = #[.ref a, .ref b, .int (Int32.ofNat o), .int (Int32.ofNat len), .null] ∧ Blank "java/lang/String" a D s ∧ Found "java/lang/String" "value" "[B" fV s ∧ Found "java/lang/String" "coder" "B" fC s ∧ Ch b A s ∧ StaticIs s "java/lang/String" "COMPACT_STRINGS" "Z" (.int z) ∧ ¬ z = 0 ∧ 0 < len ∧ o + len ≤ A.slots.size ∧ len ≤ 536870912 ∧ ∀ i, i < len → ¬ 255 < cv A (o + i)
def E (a : Addr) (D : Cell) (fV fC : Field) (A : Cell) (o len : Nat) (r : Option Value) (s u : State) : Prop := Got a D fV fC A o len r s u
/-- len > 0, no char of the range above 255: a Latin-1 String of their low bytes -/
theorem law (l : Launch) (a : Addr) (D : Cell) (fV fC : Field) (b : Addr) (A : Cell) (z : Int32) (o len : Nat) : Law l yN 5 4 2 35 yB 6 none site (P a D fV fC b A z o len) (E a D fV fC A o len) [⟨a, fC.slot⟩, ⟨a, fV.slot⟩] 1 len := by
  refine Law.of_walk (plainFor_of_name (by decide +kernel)) (by decide +kernel) (by decide +kernel) (by decide) (fun _ _ h => by rw [h.1]; rfl) (fun _ U U' hal hh h => ⟨h.1, h.2.1.mv hal hh, h.2.2.1.al hal, h.2.2.2.1.al hal, h.2.2.2.2.1.mv hal hh, h.2.2.2.2.2.1.there hal hh, h.2.2.2.2.2.2⟩) (fun r U U' V V' h1 hal h2 h => Got.mv r U U' V V' h1 hal h2 h) ?_
  intro p e s m args below meth c s₁ X0 hexec hbytes hml hret hlk hnm hown hh0 W hP
  obtain ⟨rfl, hB, f1, f2, hA, s1, hz, l0, l1, l2, hp⟩ := hP
  have a31 := hA.1.2.2.2
  have c1 : Steps p.tables e below (s₁.setTop (entryFrame m #[.ref a, .ref b, .int (Int32.ofNat o), .int (Int32.ofNat len), .null] 6)) (s₁.setTop (mkF m 0 #[.val (.ref a), .val (.ref b), .val (.int (Int32.ofNat o)), .val (.int (Int32.ofNat len)), .val .null, .unset] [])) := entry rfl
  have c2 : Steps p.tables e below (s₁.setTop (entryFrame m #[.ref a, .ref b, .int (Int32.ofNat o), .int (Int32.ofNat len), .null] 6)) (s₁.setTop (mkF m 1 #[.val (.ref a), .val (.ref b), .val (.int (Int32.ofNat o)), .val (.int (Int32.ofNat len)), .val .null, .unset] [.ref a])) := c1.trans (by
    refine XS.aloadN X0.here hexec rfl (hb hbytes d0) rfl rfl ?_
    exact Steps.refl _)
  obtain ⟨T3, X3, q3, st3⟩ := X0.oinit hexec hown (wks W (objW "java/lang/String" 1)) (g := (mkF m 1 #[.val (.ref a), .val (.ref b), .val (.int (Int32.ofNat o)), .val (.int (Int32.ofNat len)), .val .null, .unset] [.ref a])) rfl (by rw [hml]; rfl) (rest := []) rfl (hb hbytes d1) (W := 0) (by show 2 * 0 + 0 ≤ _; decide) (Nat.le_of_ble_eq_true rfl) (Nat.le_of_ble_eq_true rfl)
  have hh3 := q3.trans hh0
  have c4 : Steps p.tables e below (s₁.setTop (entryFrame m #[.ref a, .ref b, .int (Int32.ofNat o), .int (Int32.ofNat len), .null] 6)) (T3.setTop (mkF m 27 #[.val (.ref a), .val (.ref b), .val (.int (Int32.ofNat o)), .val (.int (Int32.ofNat len)), .val .null, .unset] [])) := (c2.trans (st3 _ (Steps.refl _))).trans (by
    refine XS.iloadN X3.here hexec rfl (hb hbytes d4) rfl ?_
    refine XS.ifYes X3.here hexec rfl (pc0 := 5) rfl (hb hbytes d5) rfl (i0_ne_t (nz32 (by omega) l0)) (by decide) rfl ?_
    exact Steps.refl _)
  obtain ⟨T5, X5, q5, st5⟩ := X3.sget hexec hown (wk W (.fieldLink "java/lang/String" 38 "java/lang/String" "COMPACT_STRINGS" "Z")) s1 (fun _ _ h => by rw [hh3]; exact h) (g := (mkF m 27 #[.val (.ref a), .val (.ref b), .val (.int (Int32.ofNat o)), .val (.int (Int32.ofNat len)), .val .null, .unset] [])) rfl (hb hbytes d27)
  have hh5 := q5.trans hh3
  have c6 : Steps p.tables e below (s₁.setTop (entryFrame m #[.ref a, .ref b, .int (Int32.ofNat o), .int (Int32.ofNat len), .null] 6)) (T5.setTop (mkF m 30 #[.val (.ref a), .val (.ref b), .val (.int (Int32.ofNat o)), .val (.int (Int32.ofNat len)), .val .null, .unset] [.int z])) := c4.trans (st5 _ (Steps.refl _))
  have c7 : Steps p.tables e below (s₁.setTop (entryFrame m #[.ref a, .ref b, .int (Int32.ofNat o), .int (Int32.ofNat len), .null] 6)) (T5.setTop (mkF m 36 #[.val (.ref a), .val (.ref b), .val (.int (Int32.ofNat o)), .val (.int (Int32.ofNat len)), .val .null, .unset] [.int (Int32.ofNat len), .int (Int32.ofNat o), .ref b])) := c6.trans (by
    refine XS.ifNo X5.here hexec rfl (hb hbytes d30) rfl (i0_eq_f hz) ?_
    refine XS.aloadN X5.here hexec rfl (hb hbytes d33) rfl rfl ?_
    refine XS.iloadN X5.here hexec rfl (hb hbytes d34) rfl ?_
    refine XS.iloadN X5.here hexec rfl (hb hbytes d35) rfl ?_
    exact Steps.refl _)
  obtain ⟨v8, T8, X8, E8, g8⟩ := X5.callS hexec (Cmp3.law l b A o len) hown (wks W (staticW "java/lang/String" 177 Cmp3.yN)) (wk W Cmp3.tab) (W := 0) (Nat.le_of_ble_eq_true rfl) (Nat.le_of_ble_eq_true rfl) (Nat.le_refl _) (by show 0 + len ≤ len; omega) (g := (mkF m 36 #[.val (.ref a), .val (.ref b), .val (.int (Int32.ofNat o)), .val (.int (Int32.ofNat len)), .val .null, .unset] [.int (Int32.ofNat len), .int (Int32.ofNat o), .ref b])) rfl (by rw [hml]; rfl) c7 (argsL := [.ref b, .int (Int32.ofNat o), .int (Int32.ofNat len)]) (rest := []) rfl rfl (by show 2 * 0 + 0 ≤ _; decide) (hb hbytes d36) (⟨rfl, hA.mv X5.warmed.alike hh5, l1, l2, hp⟩)
  obtain ⟨e8, z8⟩ := E8
  obtain ⟨rfl, N, n1, n2, n3, n4, n5, n6⟩ := NewArr.mv _ T5 s _ _ hh5.symm (Vm.Alike.refl _) rfl e8
  rw [hh5] at z8
  have hB1 := hB.keep X8.warmed.alike (n6 _ _ hB.1)
  have hne : s.heap.size ≠ a := (Nat.ne_of_lt (Array.getElem?_eq_some_iff.mp hB.1).1).symm
  have c9 : Steps p.tables e below (s₁.setTop (entryFrame m #[.ref a, .ref b, .int (Int32.ofNat o), .int (Int32.ofNat len), .null] 6)) (T8.setTop (mkF m 39 #[.val (.ref a), .val (.ref b), .val (.int (Int32.ofNat o)), .val (.int (Int32.ofNat len)), .val .null, .unset] [.ref s.heap.size])) := g8
  have c10 : Steps p.tables e below (s₁.setTop (entryFrame m #[.ref a, .ref b, .int (Int32.ofNat o), .int (Int32.ofNat len), .null] 6)) (T8.setTop (mkF m 45 #[.val (.ref a), .val (.ref b), .val (.int (Int32.ofNat o)), .val (.int (Int32.ofNat len)), .val .null, .val (.ref s.heap.size)] [.int (Int32.ofNat N.slots.size), .ref s.heap.size, .ref a])) := by
    have hc : Steps p.tables e below (s₁.setTop (entryFrame m #[.ref a, .ref b, .int (Int32.ofNat o), .int (Int32.ofNat len), .null] 6)) (T8.setTop (mkF m 45 #[.val (.ref a), .val (.ref b), .val (.int (Int32.ofNat o)), .val (.int (Int32.ofNat len)), .val .null, .val (.ref s.heap.size)] [.int (Int32.ofNat len), .ref s.heap.size, .ref a])) := c9.trans (by
      refine XS.astore X8.here hexec rfl (hb hbytes d39) rfl rfl rfl ?_
      refine XS.aloadN X8.here hexec rfl (hb hbytes d41) rfl rfl ?_
      refine XS.aload X8.here hexec rfl (hb hbytes d42) rfl rfl ?_
      refine XS.iloadN X8.here hexec rfl (hb hbytes d44) rfl ?_
      exact Steps.refl _)
    rw [n4]; exact hc
  obtain ⟨v11, T11, X11, E11, g11⟩ := X8.callS hexec (CodL.law l s.heap.size N) hown (wks W (staticW "java/lang/String" 47 CodL.yN)) (wk W CodL.tab) (W := 1) (Nat.le_of_ble_eq_true rfl) (Nat.le_of_ble_eq_true rfl) (Nat.le_refl _) (by show 0 + len + 0 ≤ len; omega) (g := (mkF m 45 #[.val (.ref a), .val (.ref b), .val (.int (Int32.ofNat o)), .val (.int (Int32.ofNat len)), .val .null, .val (.ref s.heap.size)] [.int (Int32.ofNat N.slots.size), .ref s.heap.size, .ref a])) rfl (by rw [hml]; rfl) c10 (argsL := [.ref s.heap.size, .int (Int32.ofNat N.slots.size)]) (rest := [.ref a]) rfl rfl (by show 2 * 0 + (1 + 0) ≤ _; decide) (hb hbytes d45) (⟨rfl, n1⟩)
  obtain ⟨rfl, q11⟩ := E11
  have hB11 := hB1.mv (X8.warmed.alike.symm.trans X11.warmed.alike) q11
  have c12 : Steps p.tables e below (s₁.setTop (entryFrame m #[.ref a, .ref b, .int (Int32.ofNat o), .int (Int32.ofNat len), .null] 6)) (T11.setTop (mkF m 48 #[.val (.ref a), .val (.ref b), .val (.int (Int32.ofNat o)), .val (.int (Int32.ofNat len)), .val .null, .val (.ref s.heap.size)] [.int 0, .ref a])) := g11
  obtain ⟨T13, X13, p13, bl13, sl13, st13⟩ := X11.finit hexec hown (wk W (.fieldLink "java/lang/String" 15 "java/lang/String" "coder" "B")) (Or.inr ⟨_, (wk W (.laysFinal "java/lang/String" "java/lang/String" "coder" "B"))⟩) (Or.inl ⟨rfl, hnm⟩) f2 (Or.inl rfl) hB11 (t := .byte) (by decide +kernel) rfl (g := (mkF m 48 #[.val (.ref a), .val (.ref b), .val (.int (Int32.ofNat o)), .val (.int (Int32.ofNat len)), .val .null, .val (.ref s.heap.size)] [.int 0, .ref a])) rfl (rest := []) rfl (hb hbytes d48)
  have c14 : Steps p.tables e below (s₁.setTop (entryFrame m #[.ref a, .ref b, .int (Int32.ofNat o), .int (Int32.ofNat len), .null] 6)) (T13.setTop (mkF m 54 #[.val (.ref a), .val (.ref b), .val (.int (Int32.ofNat o)), .val (.int (Int32.ofNat len)), .val .null, .val (.ref s.heap.size)] [.ref s.heap.size, .ref a])) := (c12.trans (st13 _ (Steps.refl _))).trans (by
    refine XS.aloadN X13.here hexec rfl (hb hbytes d51) rfl rfl ?_
    refine XS.aload X13.here hexec rfl (hb hbytes d52) rfl rfl ?_
    exact Steps.refl _)
  obtain ⟨T15, X15, p15, bl15, sl15, st15⟩ := X13.finit hexec hown (wk W (.fieldLink "java/lang/String" 9 "java/lang/String" "value" "[B")) (Or.inr ⟨_, (wk W (.laysFinal "java/lang/String" "java/lang/String" "value" "[B"))⟩) (Or.inl ⟨rfl, hnm⟩) f1 (Or.inl rfl) bl13 (t := (.array .byte)) (by decide +kernel) rfl (g := (mkF m 54 #[.val (.ref a), .val (.ref b), .val (.int (Int32.ofNat o)), .val (.int (Int32.ofNat len)), .val .null, .val (.ref s.heap.size)] [.ref s.heap.size, .ref a])) rfl (rest := []) rfl (hb hbytes d54)
  have c16 : Steps p.tables e below (s₁.setTop (entryFrame m #[.ref a, .ref b, .int (Int32.ofNat o), .int (Int32.ofNat len), .null] 6)) (T15.setTop (mkF m 57 #[.val (.ref a), .val (.ref b), .val (.int (Int32.ofNat o)), .val (.int (Int32.ofNat len)), .val .null, .val (.ref s.heap.size)] [])) := c14.trans (st15 _ (Steps.refl _))
  have ap := apart (Or.inr ⟨_, (wk W (.laysFinal "java/lang/String" "java/lang/String" "value" "[B"))⟩) (Or.inr ⟨_, (wk W (.laysFinal "java/lang/String" "java/lang/String" "coder" "B"))⟩) f1 f2 (t₁ := .array .byte) (t₂ := .byte) (by decide +kernel) (by decide +kernel) (by decide)
  have al := X8.warmed.alike.symm.trans X15.warmed.alike
  have n7 : T11.heap[s.heap.size]? = some N := by rw [q11]; exact n1.1
  exact ⟨T15, none, _, _, _, X15, by simp, rfl, by omega, (fun _ => rfl), ⟨rfl, _, N, bl15, ((Same.refl D _).set _ (by simp)).set _ (by simp), sl15, (Cell.slots_setSlot_ne _ ap).trans sl13, n1.keep al (p15.other hne (p13.other hne n7)), n2, by rw [al.findClass]; exact n3, n4, n5, fun y c h1 h2 => p15.other h1 (p13.other h1 (by rw [q11]; exact n6 y c h2)), by rw [p15.2.2, p13.2.2, q11]; exact z8⟩, fun fs hl => c16.trans (X15.returnOut hexec hret (hb hbytes d57) hl)⟩
end New4
namespace New1
def yN : MethodName := ⟨"java/lang/String", "<init>", "([C)V"⟩
abbrev yB : ByteArray := jdk_42_method_3_code
theorem d0 : decode yB 0 = .ok (.aload_n 0, 1) := by decide +kernel
theorem d1 : decode yB 1 = .ok (.aload_n 1, 1) := by decide +kernel
theorem d2 : decode yB 2 = .ok (.iconst 0, 1) := by decide +kernel
theorem d3 : decode yB 3 = .ok (.aload_n 1, 1) := by decide +kernel
theorem d4 : decode yB 4 = .ok (.arraylength, 1) := by decide +kernel
theorem d5 : decode yB 5 = .ok (.aconst_null, 1) := by decide +kernel
theorem d6 : decode yB 6 = .ok (.invokespecial 27, 3) := by decide +kernel
theorem d9 : decode yB 9 = .ok (.return_, 1) := by decide +kernel
def site : List Cond := [New4.tab] ++ initW "java/lang/String" 27 New4.yN
def tab : Cond := tabOf yN yB 2 none site
def P (a : Addr) (D : Cell) (fV fC : Field) (b : Addr) (A : Cell) (z : Int32) (args : Array Value) (s : State) : Prop := args = #[.ref a, .ref b] ∧ Blank "java/lang/String" a D s ∧ Found "java/lang/String" "value" "[B" fV s ∧ Found "java/lang/String" "coder" "B" fC s ∧ Ch b A s ∧ StaticIs s "java/lang/String" "COMPACT_STRINGS" "Z" (.int z) ∧ ¬ z = 0 ∧ 0 < A.slots.size ∧ A.slots.size ≤ 536870912 ∧ ∀ i, i < A.slots.size → ¬ 255 < cv A i
def E (a : Addr) (D : Cell) (fV fC : Field) (A : Cell) (r : Option Value) (s u : State) : Prop := Got a D fV fC A 0 A.slots.size r s u
/-- new String(chars), not empty, no char above 255: a Latin-1 String of their low bytes -/
theorem law (l : Launch) (a : Addr) (D : Cell) (fV fC : Field) (b : Addr) (A : Cell) (z : Int32) : Law l yN 2 1 3 52 yB 2 none site (P a D fV fC b A z) (E a D fV fC A) [⟨a, fC.slot⟩, ⟨a, fV.slot⟩] 1 A.slots.size := by
  refine Law.of_walk (plainFor_of_name (by decide +kernel)) (by decide +kernel) (by decide +kernel) (by decide) (fun _ _ h => by rw [h.1]; rfl) (fun _ U U' hal hh h => ⟨h.1, h.2.1.mv hal hh, h.2.2.1.al hal, h.2.2.2.1.al hal, h.2.2.2.2.1.mv hal hh, h.2.2.2.2.2.1.there hal hh, h.2.2.2.2.2.2⟩) (fun r U U' V V' h1 hal h2 h => Got.mv r U U' V V' h1 hal h2 h) ?_
  intro p e s m args below meth c s₁ X0 hexec hbytes hml hret hlk hnm hown hh0 W hP
  obtain ⟨rfl, hB, f1, f2, hA, s1, hz, l0, l2, hp⟩ := hP
  have c1 : Steps p.tables e below (s₁.setTop (entryFrame m #[.ref a, .ref b] 2)) (s₁.setTop (mkF m 0 #[.val (.ref a), .val (.ref b)] [])) := entry rfl
  have c2 : Steps p.tables e below (s₁.setTop (entryFrame m #[.ref a, .ref b] 2)) (s₁.setTop (mkF m 6 #[.val (.ref a), .val (.ref b)] [.null, .int (Int32.ofNat A.slots.size), .int 0, .ref b, .ref a])) := c1.trans (by
    refine XS.aloadN X0.here hexec rfl (hb hbytes d0) rfl rfl ?_
    refine XS.aloadN X0.here hexec rfl (hb hbytes d1) rfl rfl ?_
    refine iconstV X0.here hexec rfl 0 (hb hbytes d2) (by decide) ?_
    refine XS.aloadN X0.here hexec rfl (hb hbytes d3) rfl rfl ?_
    refine X0.alen hexec (hA.1.mv X0.warmed.alike hh0) rfl rfl (hb hbytes d4) ?_
    refine XS.aconstNull X0.here hexec rfl (hb hbytes d5) ?_
    exact Steps.refl _)
  obtain ⟨v3, T3, X3, E3, g3⟩ := X0.callN hexec (New4.law l a D fV fC b A z 0 A.slots.size) rfl hown (wks W (initW "java/lang/String" 27 New4.yN)) (W New4.tab (by simp only [site, List.mem_cons, List.mem_append, true_or, or_true])) (W := 0) (Nat.le_of_ble_eq_true rfl) (Nat.le_of_ble_eq_true rfl) (Nat.le_refl _) (by show 0 + A.slots.size ≤ A.slots.size; omega) (g := (mkF m 6 #[.val (.ref a), .val (.ref b)] [.null, .int (Int32.ofNat A.slots.size), .int (Int32.ofNat 0), .ref b, .ref a])) rfl (by rw [hml]; rfl) c2 (argsL := [.ref b, .int (Int32.ofNat 0), .int (Int32.ofNat A.slots.size), .null]) (rest := []) rfl rfl (by show 2 * 0 + 0 ≤ _; decide) (hb hbytes d6) (⟨rfl, hB.mv X0.warmed.alike hh0, f1.al X0.warmed.alike, f2.al X0.warmed.alike, hA.mv X0.warmed.alike hh0, s1.there X0.warmed.alike hh0, hz, l0, by omega, l2, fun i hi => by rw [Nat.zero_add]; exact hp i hi⟩)
  have e0 := Got.mv _ s₁ s _ _ hh0.symm (Vm.Alike.refl _) rfl E3
  obtain rfl := e0.1
  have c4 : Steps p.tables e below (s₁.setTop (entryFrame m #[.ref a, .ref b] 2)) (T3.setTop (mkF m 9 #[.val (.ref a), .val (.ref b)] [])) := g3
  exact ⟨T3, none, _, _, _, X3, by simp, rfl, by omega, (fun _ => rfl), e0, fun fs hl => c4.trans (X3.returnOut hexec hret (hb hbytes d9) hl)⟩
theorem pays {l : Launch} {R : Room} {p : Program} {e : Env} {below : List Frame} {s : State} {sargs : Array Value} {len W : Nat} (a : Addr) (D : Cell) (fV fC : Field) (b : Addr) (A : Cell) (z : Int32) (htab : tab.before sargs s = true) (hfr : 4 ≤ R.frames) (hlo : W + 65 ≤ R.locals) :
    Back l R p e below s sargs yN len W (fun A₁ a₁ => A₁.cells + 1 ≤ R.cells ∧ A₁.slots + A.slots.size ≤ R.slots ∧ P a D fV fC b A z a₁ A₁.U) (fun A₁ _ v₁ B₁ => E a D fV fC A v₁ A₁.U B₁.U ∧ B₁.locs = A₁.locs ++ [⟨a, fC.slot⟩, ⟨a, fV.slot⟩] ∧ B₁.cells = A₁.cells + 1 ∧ B₁.slots = A₁.slots + A.slots.size) :=
  (law l a D fV fC b A z).pays htab hfr (by omega)
end New1
/-- the byte, read back as charAt reads it, is the char -/
theorem lo8_mask {x : Int32} (h0 : ¬ x < 0) (h1 : ¬ 255 < x) : lo8 x &&& 255 = x := by
  have t : ∀ k : Fin 256, lo8 (Int32.ofNat k.val) &&& 255 = Int32.ofNat k.val := by decide +kernel
  rw [Int32.lt_iff_toInt_lt] at h0 h1
  have e0 : (0 : Int32).toInt = 0 := rfl
  have e1 : (255 : Int32).toInt = 255 := rfl
  obtain ⟨k, hk⟩ : ∃ k : Nat, x.toInt = k := ⟨x.toInt.toNat, by omega⟩
  have hx : x = Int32.ofNat k := Int32.toInt_inj.mp (by rw [hk, Int32.toInt_ofNat_small (by omega)])
  rw [hx]
  exact t ⟨k, by omega⟩
end StrChars
namespace StrChars.Road
open Jvm Sem ClassFile Op Lib Jvm.Stand Jvm.Free Jvm.Free.XT
open Jvm.Lib.Cold (StaticIs)
abbrev ST : String := "java/lang/String"
/-- every table word that New1's law asks, flat -/
abbrev words : List Jvm.Cond := [.code New1.yN New1.yB 2 none, .initialized ST, .methodLink ST 27 New4.yN, .instanceMethod New4.yN,
  .code New4.yN New4.yB 6 none, .fieldLink ST 38 ST "COMPACT_STRINGS" "Z", .laysFinal ST ST "value" "[B", .fieldLink ST 9 ST "value" "[B", .laysFinal ST ST "coder" "B", .fieldLink ST 15 ST "coder" "B",
  .methodLink ST 1 Lib.objectInit, .instanceMethod Lib.objectInit, .code Lib.objectInit ⟨#[0xb1]⟩ 1 none, .methodLink ST 177 Cmp3.yN, .static Cmp3.yN, .methodLink ST 47 CodL.yN, .static CodL.yN,
  .code Cmp3.yN Cmp3.yB 6 (some (.array .byte)), .initialized U16, .arrayClass .byte, .methodLink U16 115 Cmp5.yN, .static Cmp5.yN, .code Cmp5.yN Cmp5.yB 7 (some .int), .code CodL.yN CodL.yB 2 (some .byte)]
theorem tab_of {a : Array Value} {s : State} (h : ∀ w ∈ words, w.before a s = true) : New1.tab.before a s = true := by
  have h5 : Cmp5.tab.before a s = true := unparts (wk h (.code Cmp5.yN Cmp5.yB 7 (some .int))) (wks h (.initialized Cmp5.yN.cls :: Cmp5.site))
  have hc : CodL.tab.before a s = true := unparts (wk h (.code CodL.yN CodL.yB 2 (some .byte))) (wks h (.initialized CodL.yN.cls :: CodL.site))
  have q5 : ∀ w ∈ Cmp5.tab :: words, w.before a s = true := fun w hw => (List.mem_cons.mp hw).elim (fun e => e ▸ h5) (h w)
  have h3 : Cmp3.tab.before a s = true := unparts (wk q5 (.code Cmp3.yN Cmp3.yB 6 (some (.array .byte)))) (wks q5 (.initialized Cmp3.yN.cls :: Cmp3.site))
  have q3 : ∀ w ∈ Cmp3.tab :: CodL.tab :: words, w.before a s = true := fun w hw => (List.mem_cons.mp hw).elim (fun e => e ▸ h3) fun hw => (List.mem_cons.mp hw).elim (fun e => e ▸ hc) (h w)
  have h4 : New4.tab.before a s = true := unparts (wk q3 (.code New4.yN New4.yB 6 none)) (wks q3 (.initialized New4.yN.cls :: New4.site))
  have q4 : ∀ w ∈ New4.tab :: words, w.before a s = true := fun w hw => (List.mem_cons.mp hw).elim (fun e => e ▸ h4) (h w)
  exact unparts (wk q4 (.code New1.yN New1.yB 2 none)) (wks q4 (.initialized New1.yN.cls :: New1.site))
/-- the words ride from the start Z to the walk's own state -/
theorem moved {Z s : State} {a0 args : Array Value} (hZ : Z.Warmed39 s.vm) (hw : ∀ d ∈ words, d.before a0 Z = true) : ∀ d ∈ words, d.before args s = true := fun d hd => by
  have q := hw d hd
  have t : ∀ d ∈ words, d = .arrayClass .byte ∨ (d.onTables && d.keepsFace) = true := by decide +kernel
  rcases t d hd with rfl | t
  · exact RoadKit.mvA hZ q
  · exact RoadKit.mv hZ q t
/-- WHAT COMES BACK, over the tables of the start Z: h the heap at the call, h' behind it -/
def Q (Z : State) (x : Addr) (A : Cell) (h : Heap) (v : Option Value) (h' : Heap) (L : List Loc) : Prop := v = none ∧ (∀ y ∈ L, y.base = x) ∧ RoadKit.Keep h h' [x] ∧ h'.size = h.size + 1 ∧ RoadKit.Exa Z h' x ST ∧ RoadKit.Fld Z h' x ST "value" "[B" (.ref h.size) ∧ RoadKit.Fld Z h' x ST "coder" "B" (.int 0) ∧
  (∃ V : Cell, RoadKit.Arr Z h' h.size V .byte ∧ V.vm = .none ∧ Z.vm.findClass "[B" = some V.cls ∧ V.slots.size = A.slots.size ∧ ∀ j, j < A.slots.size → V.slots[j]? = some (.int (lo8 (cv A j)))) ∧
  ∀ (O n d : String) (w : Value), RoadKit.Fld Z h x O n d w → RoadKit.slotOf Z O n d ≠ RoadKit.slotOf Z ST "value" "[B" → RoadKit.slotOf Z O n d ≠ RoadKit.slotOf Z ST "coder" "B" → RoadKit.Fld Z h' x O n d w
/-- **new String(chars) AT A CALL, IN THE ROAD'S FORM**: for specialBack behind newO: x the fresh String, b the char[] with the cell A -/
theorem back {p : Program} {l : Launch} {e : Env} {R : Room} {s : State} {args : Array Value} {below : List Frame} {len W : Nat} {Z : State} {a0 : Array Value} {h : Heap} (hZ : Z.Warmed39 s.vm) (hw : ∀ d ∈ words, d.before a0 Z = true) {kI : Nat} (wi : (Jvm.Cond.instantiable ST kI).before a0 Z = true)
    {x b : Addr} {A : Cell} {z : Int32} {v0 c0 : Value} (E : RoadKit.Exa Z h x ST) (V : RoadKit.Fld Z h x ST "value" "[B" v0) (C : RoadKit.Fld Z h x ST "coder" "B" c0) (K : RoadKit.Arr Z h b A .char) (hty : Typed .char A) (S : RoadKit.Sta Z h ST "COMPACT_STRINGS" "Z" (.int z)) (hz : ¬ z = 0)
    (l0 : 0 < A.slots.size) (l2 : A.slots.size ≤ 536870912) (hp : ∀ i, i < A.slots.size → ¬ 255 < cv A i) (hfr : 4 ≤ R.frames) (hlo : W + 65 ≤ R.locals) :
    Back l R p e below s args New1.yN len W (fun P a => a = #[.ref x, .ref b] ∧ P.U.heap = h ∧ P.cells + 1 ≤ R.cells ∧ P.slots + A.slots.size ≤ R.slots)
      (fun P _ v B => ∃ L, Q Z x A h v B.U.heap L ∧ B.locs = P.locs ++ L ∧ B.cells = P.cells + 1 ∧ B.slots = P.slots + A.slots.size) := by
  intro m meth c P g ig mk a X hg hsize hdg hW hn hp'
  obtain ⟨rfl, rfl, r1, r2⟩ := hp'
  have al : Z.vm.Alike P.U.vm := hZ.alike.trans X.warmed.alike
  obtain ⟨D, cfV, kV, iV, fV, hD, gV, stV, knV, obV, asV, slV⟩ := id V
  obtain ⟨D', cfC, kC, iC, fC, hD', gC, stC, -, -, asC, slC⟩ := id C
  cases hD.symm.trans hD'
  obtain ⟨D2, kD, e1, e2, e3, e4, e5⟩ := id E
  cases hD.symm.trans e1
  obtain ⟨c2, k2, i1, i2, i3, -⟩ := Cond.instantiable_spec wi
  cases e2.symm.trans i1
  cases e3.symm.trans i2
  obtain ⟨kU, u1, u2⟩ := al.2.2 _ _ e3
  have hB : Blank ST x D P.U := ⟨hD, ⟨knV, fun q hq => by rw [hq] at obV; cases obV⟩, by rw [al.findClass]; exact e2, kU, u1, by rw [u2]; exact i3, by rw [u2]; exact e5 i3⟩
  have F1 : Found ST "value" "[B" fV P.U := ⟨SBG.found_only al ⟨cfV, kV, iV, gV⟩, stV⟩
  have F2 : Found ST "coder" "B" fC P.U := ⟨SBG.found_only al ⟨cfC, kC, iC, gC⟩, stC⟩
  have hA : Ch b A P.U := ⟨⟨K.1, State.isArrayOf_alike al K.2.1, K.2.2, by omega⟩, hty⟩
  have hS : StaticIs P.U ST "COMPACT_STRINGS" "Z" (.int z) := by
    obtain ⟨cfS, iS, kS, fS, st, cS, t1, t2, t3, t4, t5, t6, t7⟩ := S
    exact StaticIs.there (s := { Z with heap := P.U.heap }) ⟨cfS, iS, kS, fS, st, cS, t1, t2, t3, t4, t5, (fun q => by rw [q] at t6; cases t6), t7⟩ al rfl
  obtain ⟨v, B, X', ⟨⟨hv, E', V', q1, q2, q3, q4, q5, q6, q7, q8, q9, q10, q11⟩, hl, hc, hs⟩, st⟩ := New1.pays x D fV fC b A z (tab_of (moved hZ hw)) hfr hlo m meth c P g ig mk _ X hg hsize hdg hW hn ⟨r1, r2, rfl, hB, F1, F2, hA, hS, hz, l0, l2, hp⟩
  have al' : Z.vm.Alike B.U.vm := hZ.alike.trans X'.warmed.alike
  have hsz : E'.slots.size = D.slots.size := by
    obtain ⟨-, -, -, kB, w1, w2, w3⟩ := q1
    obtain ⟨kB', y1, y2⟩ := al'.2.2 _ _ e3
    rw [q2.2.1] at w1
    cases w1.symm.trans y1
    rw [w3, e5 i3, y2]
  refine ⟨v, B, X', ⟨_, ⟨hv, ?_, ⟨by omega, fun y cy hy hn' => q10 y cy (by simpa using hn') hy, fun y cy hy => ?_⟩, q11, ⟨E', _, q1.1, by rw [q2.2.1]; exact e2, by rw [q2.2.1]; exact e3, by rw [q2.1]; exact obV, fun _ => by rw [hsz]; exact e5 i3⟩,
    ⟨E', cfV, kV, iV, fV, q1.1, gV, stV, by rw [q2.1]; exact knV, by rw [q2.1]; exact obV, by rw [q2.2.1]; exact asV, q3⟩, ⟨E', cfC, kC, iC, fC, q1.1, gC, stC, by rw [q2.1]; exact knV, by rw [q2.1]; exact obV, by rw [q2.2.1]; exact asC, q4⟩,
    ⟨V', ⟨q5.1, State.isArrayOf_alike al'.symm q5.2.1, q5.2.2.1⟩, q6, by rw [← al'.findClass]; exact q7, q8, fun j hj => by have := q9 j hj; rwa [Nat.zero_add] at this⟩, fun O n d w F n1 n2 => ?_⟩, hl, hc, hs⟩, st⟩
  · intro y hy
    simp only [List.mem_cons, List.not_mem_nil, or_false] at hy
    rcases hy with rfl | rfl <;> rfl
  · by_cases q : y = x
    · subst q
      cases hD.symm.trans hy
      exact ⟨E', q1.1, q2.2.1, q2.1, hsz⟩
    · exact ⟨cy, q10 y cy q hy, rfl, rfl, rfl⟩
  · obtain ⟨D3, cf, k, i, f, g1, g2, g3, g4, g5, g6, g7⟩ := F
    cases hD.symm.trans g1
    simp only [RoadKit.slotOf, g2, gV, gC, Option.map_some, Option.getD_some] at n1 n2
    exact ⟨E', cf, k, i, f, q1.1, g2, g3, by rw [q2.1]; exact g4, by rw [q2.1]; exact g5, by rw [q2.2.1]; exact g6, by rw [q2.2.2 f.slot (by simp [n1, n2])]; exact g7⟩
end StrChars.Road
namespace StrChars.Road
open Jvm Sem ClassFile Op Lib Jvm.Stand Jvm.Free Jvm.Free.XT
/-- WHAT COMES BACK, the byte[] as a list of values -/
def QA (Z : State) (x : Addr) (zn : Int32) (cs : List Int32) (h : Heap) (v : Option Value) (h' : Heap) (L : List Loc) : Prop := v = none ∧ (∀ y ∈ L, y.base = x) ∧ RoadKit.Keep h h' [x] ∧ h'.size = h.size + 1 ∧ RoadKit.Exa Z h' x ST ∧ RoadKit.Fld Z h' x ST "value" "[B" (.ref h.size) ∧ RoadKit.Fld Z h' x ST "coder" "B" (.int 0) ∧
  (∃ kb, Z.vm.findClass "[B" = some kb ∧ RoadKit.Arv Z h' h.size kb .byte zn (cs.map fun c => .int (lo8 c)) (.int 0)) ∧
  ∀ (O n d : String) (w : Value), RoadKit.Fld Z h x O n d w → RoadKit.slotOf Z O n d ≠ RoadKit.slotOf Z ST "value" "[B" → RoadKit.slotOf Z O n d ≠ RoadKit.slotOf Z ST "coder" "B" → RoadKit.Fld Z h' x O n d w
/-- **new String(chars) AT A CALL, THE ARRAYS AS LISTS**: the char[] at b holds cs, not empty, no char above 255 -/
theorem backArv {p : Program} {l : Launch} {e : Env} {R : Room} {s : State} {args : Array Value} {below : List Frame} {len W : Nat} {Z : State} {a0 : Array Value} {h : Heap} (hZ : Z.Warmed39 s.vm) (hw : ∀ d ∈ words, d.before a0 Z = true) {kI : Nat} (wi : (Jvm.Cond.instantiable ST kI).before a0 Z = true)
    {x b : Addr} {k : ClassId} {zn z : Int32} {cs : List Int32} {dv v0 c0 : Value} (E : RoadKit.Exa Z h x ST) (V : RoadKit.Fld Z h x ST "value" "[B" v0) (C : RoadKit.Fld Z h x ST "coder" "B" c0) (K : RoadKit.Arv Z h b k .char zn (cs.map Value.int) dv) (S : RoadKit.Sta Z h ST "COMPACT_STRINGS" "Z" (.int z)) (hz : ¬ z = 0)
    (hlen : zn.toNatClampNeg = cs.length) (h0 : 0 < cs.length) (hbig : cs.length ≤ 536870912) (hall : ∀ c ∈ cs, ¬ 255 < c) (hfr : 4 ≤ R.frames) (hlo : W + 65 ≤ R.locals) :
    Back l R p e below s args New1.yN len W (fun P a => a = #[.ref x, .ref b] ∧ P.U.heap = h ∧ P.cells + 1 ≤ R.cells ∧ P.slots + cs.length ≤ R.slots)
      (fun P _ v B => ∃ L, QA Z x zn cs h v B.U.heap L ∧ B.locs = P.locs ++ L ∧ B.cells = P.cells + 1 ∧ B.slots = P.slots + cs.length) := by
  obtain ⟨A, K1, K2, K3, K4, K5, K6⟩ := K
  have e : A.slots.size = cs.length := K3.trans hlen
  have hat : ∀ (i : Nat) (hi : i < cs.length), A.slots[i]? = some (.int cs[i]) := fun i hi => by rw [K5 i (by omega)]; simp [List.getD_eq_getElem?_getD, hi]
  have hcv : ∀ (i : Nat) (hi : i < cs.length), cv A i = cs[i] := fun i hi => by unfold cv; rw [hat i hi]
  have hty : Typed .char A := fun i v hv => by
    have hi : i < A.slots.size := (Array.getElem?_eq_some_iff.mp hv).1
    have q := K5 i hi
    rw [hv] at q
    rw [Option.some.inj q]
    exact K6 i hi
  refine Back.mono (back hZ hw wi E V C K1 hty S hz (by omega) (by omega) (fun i hi => by rw [hcv i (by omega)]; exact hall _ (List.getElem_mem _)) hfr hlo) (fun P a hp => ⟨hp.1, hp.2.1, hp.2.2.1, by rw [e]; exact hp.2.2.2⟩) (fun P a v B hp hq => ?_)
  obtain ⟨L, ⟨q1, q2, q3, q4, q5, q6, q7, ⟨V', v1, v2, v3, v4, v5⟩, q9⟩, hl, hc, hs⟩ := hq
  refine ⟨L, ⟨q1, q2, q3, q4, q5, q6, q7, ⟨V'.cls, v3, V', v1, rfl, by rw [v4, e, hlen], K4, fun i hi => ?_, fun i hi => ?_⟩, q9⟩, hl, hc, by rw [hs, e]⟩
  · have hi' : i < cs.length := by omega
    rw [v5 i (by omega), hcv i hi']; simp [List.getD_eq_getElem?_getD, hi']
  · have hi' : i < cs.length := by omega
    simp only [List.getD_eq_getElem?_getD, List.getElem?_map, List.getElem?_eq_getElem hi', Option.map_some, Option.getD_some]
    exact fits_lo8 _
end StrChars.Road
namespace StrChars.Road
open Jvm Sem ClassFile Op Lib Jvm.Stand Jvm.Free Jvm.Free.XT
/-- WHAT COMES BACK, in the writer's own shape -/
def QV (Z : State) (x : Addr) (N : Int32) (bs : List Int32) (h : Heap) (n0 : Nat) (v : Option Value) (h' : Heap) (L : List Loc) : Prop := v = none ∧ RoadKit.Fr n0 L ∧ RoadKit.Keep h h' [x] ∧ RoadKit.Exa Z h' x ST ∧ RoadKit.Fld Z h' x ST "coder" "B" (.int 0) ∧
  ∃ (t : Addr) (kb : ClassId), n0 ≤ t ∧ h.size ≤ t ∧ ¬ t = x ∧ RoadKit.Fld Z h' x ST "value" "[B" (.ref t) ∧ RoadKit.Arv Z h' t kb .byte N (bs.map Value.int) (.int 0)
/-- **new String(chars) AT A CALL, FOR THE WRITER**: a char[] of n known ints, each 0 to 255 -/
theorem backV {p : Program} {l : Launch} {e : Env} {R : Room} {s : State} {args : Array Value} {below : List Frame} {len W : Nat} {Z : State} {a0 : Array Value} {h : Heap} (hZ : Z.Warmed39 s.vm) (hw : ∀ d ∈ words, d.before a0 Z = true) {kI : Nat} (wi : (Jvm.Cond.instantiable ST kI).before a0 Z = true)
    {x b : Addr} {kC : ClassId} {cs bs : List Int32} {d v0 c0 : Value} {z N : Int32} {n n0 : Nat} (hx0 : n0 ≤ x) (hh0 : n0 ≤ h.size) (E : RoadKit.Exa Z h x ST) (V : RoadKit.Fld Z h x ST "value" "[B" v0) (C : RoadKit.Fld Z h x ST "coder" "B" c0) (K : RoadKit.Arv Z h b kC .char N (cs.map Value.int) d) (S : RoadKit.Sta Z h ST "COMPACT_STRINGS" "Z" (.int z)) (hz : ¬ z = 0)
    (hn : cs.length = n) (hN : N = Int32.ofNat n) (l0 : 0 < n) (l2 : n ≤ 4000) (hp : ∀ c ∈ cs, ¬ c < 0 ∧ ¬ (255 : Int32) < c) (hb : bs = cs.map (fun c => c.toInt8.toInt32)) (hfr : 4 ≤ R.frames) (hlo : W + 65 ≤ R.locals) :
    Back l R p e below s args (⟨"java/lang/String", "<init>", "([C)V"⟩ : MethodName) len W (fun P a => a = #[.ref x, .ref b] ∧ P.U.heap = h ∧ P.cells + 1 ≤ R.cells ∧ P.slots + n ≤ R.slots)
      (fun P _ v B => ∃ L, QV Z x N bs h n0 v B.U.heap L ∧ B.locs = P.locs ++ L ∧ B.cells = P.cells + 1 ∧ B.slots = P.slots + n) := by
  subst hn hN hb
  refine Back.mono (backArv hZ hw wi E V C K S hz (n32 (by omega)) l0 (by omega) (fun c hc => (hp c hc).2) hfr hlo) (fun P a hp => hp) (fun P a v B hp hq => ?_)
  obtain ⟨L, ⟨q1, q2, q3, q4, q5, q6, q7, ⟨kb, v1, v2⟩, q9⟩, hl, hc, hs⟩ := hq
  exact ⟨L, ⟨q1, fun y hy => by rw [q2 y hy]; exact hx0, q3, q5, q7, h.size, kb, hh0, Nat.le_refl _, Nat.ne_of_gt E.lt, q6, by rw [List.map_map]; exact v2⟩, hl, hc, hs⟩
end StrChars.Road
namespace StrChars
open Jvm Sem ClassFile Op Lib Jvm.Stand Jvm.Free.XT Jvm.Free.ALB Jvm.Free.JM Jvm.Free
open Jvm.Lib.Cold (StaticIs)
def hi8 (x : Int32) : Int32 := lo8 (x >>> ((8 : Int32) &&& 31))
/-- what StringUTF16.getChar makes of two bytes -/
def pairCh (u v : Int32) : Int32 := (((u &&& 255) <<< ((0 : Int32) &&& 31)) ||| ((v &&& 255) <<< ((8 : Int32) &&& 31))).toUInt32.toUInt16.toUInt32.toInt32
theorem lo8_and (x : Int32) : (lo8 x &&& 255).toBitVec.toNat = x.toBitVec.toNat % 256 := by
  have h : (lo8 x).toBitVec = (x.toBitVec.signExtend 8).signExtend 32 := by rw [lo8, Int8.toBitVec_toInt32, Int32.toBitVec_toInt8]
  rw [Int32.toBitVec_and, BitVec.toNat_and, h]
  have e : ((x.toBitVec.signExtend 8).signExtend 32).toNat % 256 = x.toBitVec.toNat % 256 := by
    rw [BitVec.toNat_signExtend]
    have hlt := x.toBitVec.isLt
    simp only [BitVec.toNat_setWidth, BitVec.toNat_signExtend]
    split <;> split <;> omega
  rw [← e]
  exact Nat.and_two_pow_sub_one_eq_mod _ 8
theorem pair_says {c : Int32} (h0 : ¬ c < 0) (h1 : ¬ 65535 < c) : pairCh (lo8 c) (hi8 c) = c := by
  rw [Int32.lt_iff_toInt_lt] at h0 h1
  have e0 : (0 : Int32).toInt = 0 := rfl
  have e1 : (65535 : Int32).toInt = 65535 := rfl
  have hc : c.toInt = c.toBitVec.toNat := by
    have := c.toBitVec.isLt
    have e : c.toInt = c.toBitVec.toInt := rfl
    rw [e] at h0 h1
    rw [e]
    rw [BitVec.toInt_eq_toNat_cond] at h0 h1 ⊢
    split at h0 <;> split <;> omega
  have hn : c.toBitVec.toNat < 65536 := by omega
  have a1 := lo8_and c
  have a2 : (hi8 c &&& 255).toBitVec.toNat = c.toBitVec.toNat / 256 := by
    rw [hi8, lo8_and]
    have e : ((8 : Int32) &&& 31) = 8 := by decide
    rw [e, Int32.toBitVec_shiftRight]
    have e2 : ((8 : Int32).toBitVec.smod 32) = 8#32 := by decide
    rw [e2, BitVec.sshiftRight_eq', BitVec.toNat_sshiftRight_of_msb_false (by rw [BitVec.msb_eq_false_iff_two_mul_lt]; omega)]
    show c.toBitVec.toNat >>> 8 % 256 = _
    rw [Nat.shiftRight_eq_div_pow]
    omega
  unfold pairCh
  apply Int32.toBitVec_inj.mp
  apply BitVec.eq_of_toNat_eq
  have f0 : ((0 : Int32) &&& 31) = 0 := by decide
  have f8 : ((8 : Int32) &&& 31) = 8 := by decide
  rw [f0, f8]
  have g : (((lo8 c &&& 255) <<< (0 : Int32)) ||| ((hi8 c &&& 255) <<< (8 : Int32))).toBitVec.toNat = c.toBitVec.toNat := by
    rw [Int32.toBitVec_or, Int32.toBitVec_shiftLeft, Int32.toBitVec_shiftLeft]
    have s0 : ((0 : Int32).toBitVec.smod 32) = 0#32 := by decide
    have s8 : ((8 : Int32).toBitVec.smod 32) = 8#32 := by decide
    rw [s0, s8, BitVec.toNat_or]
    simp only [BitVec.shiftLeft_eq', BitVec.toNat_shiftLeft, a1, a2]
    show (c.toBitVec.toNat % 256) <<< 0 % 2 ^ 32 ||| (c.toBitVec.toNat / 256) <<< 8 % 2 ^ 32 = _
    rw [Nat.shiftLeft_zero, Nat.mod_eq_of_lt (show c.toBitVec.toNat % 256 < 2 ^ 32 by omega), Nat.mod_eq_of_lt (show (c.toBitVec.toNat / 256) <<< 8 < 2 ^ 32 by rw [Nat.shiftLeft_eq]; omega), Nat.or_comm, ← Nat.shiftLeft_add_eq_or_of_lt (by omega), Nat.shiftLeft_eq]
    omega
  show BitVec.toNat (((((lo8 c &&& 255) <<< (0 : Int32)) ||| ((hi8 c &&& 255) <<< (8 : Int32))).toBitVec.setWidth 16).setWidth 32) = _
  rw [BitVec.toNat_setWidth, BitVec.toNat_setWidth, g]
  omega
end StrChars
namespace StrChars
open Jvm Sem ClassFile Op Lib Jvm.Stand Jvm.Free.XT Jvm.Free.ALB Jvm.Free.JM Jvm.Free
open Jvm.Lib.Cold (StaticIs)
theorem narrow_ch {c : Int32} (h0 : ¬ c < 0) (h1 : ¬ 65535 < c) : narrow .char (.int c) = .int c := by
  have q : narrow .char (.int (pairCh (lo8 c) (hi8 c))) = .int (pairCh (lo8 c) (hi8 c)) := narrow_c _
  rwa [pair_says h0 h1] at q
/-- the array's cell V codes the n chars f 0 .. f (n - 1) by the coder cd, as the JDK does: coder 1 just where some char is above 255 -/
def Cod (cd : Int32) (n : Nat) (f : Nat → Int32) (V : Cell) : Prop := (cd = 0 ∧ V.slots.size = n ∧ ∀ j, j < n → V.slots[j]? = some (.int (lo8 (f j))) ∧ ¬ 255 < f j) ∨ (cd = 1 ∧ V.slots.size = 2 * n ∧ (∀ j, j < n → V.slots[2 * j]? = some (.int (lo8 (f j))) ∧ V.slots[2 * j + 1]? = some (.int (hi8 (f j)))) ∧ ∃ j, j < n ∧ 255 < f j)
/-- **x is a String of the n chars f 0 .. f (n - 1)**, Latin-1 or UTF-16; its array at t has the cell V -/
def Txt (x t : Addr) (V : Cell) (cd : Int32) (n : Nat) (f : Nat → Int32) (U : State) : Prop := Exact "java/lang/String" x U ∧ Has x "java/lang/String" "value" "[B" (.ref t) U ∧ Has x "java/lang/String" "coder" "B" (.int cd) U ∧ XT.Arr .byte t V U ∧ Cod cd n f V ∧ ∀ j, j < n → ¬ f j < 0 ∧ ¬ 65535 < f j
theorem Txt.mv {x t : Addr} {V : Cell} {cd : Int32} {n : Nat} {f : Nat → Int32} {U U' : State} (h : Txt x t V cd n f U) (hal : U.vm.Alike U'.vm) (hh : U'.heap = U.heap) : Txt x t V cd n f U' := ⟨h.1.mv hal hh, h.2.1.mv hal hh, h.2.2.1.mv hal hh, h.2.2.2.1.mv hal hh, h.2.2.2.2⟩
end StrChars
namespace StrChars.Road
open Jvm Sem ClassFile Op Lib Jvm.Stand Jvm.Free Jvm.Free.XT
open Jvm.Lib.Cold (StaticIs)
theorem consq {a : Array Value} {s : State} {c : Jvm.Cond} {L : List Jvm.Cond} (h0 : c.before a s = true) (h : ∀ w ∈ L, w.before a s = true) : ∀ w ∈ c :: L, w.before a s = true := fun w hw => (List.mem_cons.mp hw).elim (fun e => e ▸ h0) (h w)
/-- the bytes of the chars cs, low before high -/
def wideBytes : List Int32 → List Value
  | [] => []
  | c :: cs => .int (lo8 c) :: .int (hi8 c) :: wideBytes cs
theorem wide_lo (d : Value) : ∀ (cs : List Int32) (j : Nat), j < cs.length → (wideBytes cs).getD (2 * j) d = .int (lo8 (cs.getD j 0))
  | [], j, h => absurd h (Nat.not_lt_zero j)
  | c :: cs, 0, _ => rfl
  | c :: cs, j + 1, h => by
    have q := wide_lo d cs j (by simpa using h)
    rw [show 2 * (j + 1) = 2 * j + 1 + 1 from by omega]
    simpa [wideBytes] using q
theorem wide_hi (d : Value) : ∀ (cs : List Int32) (j : Nat), j < cs.length → (wideBytes cs).getD (2 * j + 1) d = .int (hi8 (cs.getD j 0))
  | [], j, h => absurd h (Nat.not_lt_zero j)
  | c :: cs, 0, _ => rfl
  | c :: cs, j + 1, h => by
    have q := wide_hi d cs j (by simpa using h)
    rw [show 2 * (j + 1) + 1 = 2 * j + 1 + 1 + 1 from by omega]
    simpa [wideBytes] using q
theorem low_at (d : Value) (cs : List Int32) (j : Nat) (h : j < cs.length) : (cs.map fun c => Value.int (lo8 c)).getD j d = .int (lo8 (cs.getD j 0)) := by
  simp [List.getD_eq_getElem?_getD, h]
/-- an array of N2 bytes vs codes the chars cs by the coder cd -/
def CodA (cs : List Int32) (cd N2 : Int32) (vs : List Value) : Prop := (cd = 0 ∧ N2 = Int32.ofNat cs.length ∧ vs = (cs.map fun c => Value.int (lo8 c)) ∧ ∀ c ∈ cs, ¬ 255 < c) ∨ (cd = 1 ∧ N2 = Int32.ofNat (2 * cs.length) ∧ vs = wideBytes cs ∧ ∃ c ∈ cs, 255 < c)
theorem CodA.cod {cs : List Int32} {cd N2 : Int32} {vs : List Value} {V : Cell} (h : CodA cs cd N2 vs) (hn : 2 * cs.length < 2 ^ 31) (hs : V.slots.size = N2.toNatClampNeg) (hv : RoadKit.Has V vs (.int 0)) : Cod cd cs.length (fun j => cs.getD j 0) V := by
  rcases h with ⟨rfl, rfl, rfl, h⟩ | ⟨rfl, rfl, rfl, c, hc, hw⟩
  · rw [n32 (by omega)] at hs
    exact Or.inl ⟨rfl, hs, fun j hj => ⟨by rw [hv j (by omega), low_at _ _ _ hj], by
      have e : cs.getD j 0 = cs[j] := by simp [List.getD_eq_getElem?_getD, hj]
      show ¬ 255 < cs.getD j 0
      rw [e]; exact h _ (List.getElem_mem _)⟩⟩
  · rw [n32 (by omega)] at hs
    obtain ⟨j, hj, rfl⟩ := List.getElem_of_mem hc
    exact Or.inr ⟨rfl, hs, fun j hj => ⟨by rw [hv _ (by omega), wide_lo _ _ _ hj], by rw [hv _ (by omega), wide_hi _ _ _ hj]⟩, j, hj, by
      have e : cs.getD j 0 = cs[j] := by simp [List.getD_eq_getElem?_getD, hj]
      show 255 < cs.getD j 0
      rw [e]; exact hw⟩
/-- an object of exactly java/lang/String, its two fields found: as the laws ask it -/
theorem strObj {Z U : State} {a0 : Array Value} {kI : Nat} (wi : (Jvm.Cond.instantiable ST kI).before a0 Z = true) (al : Z.vm.Alike U.vm) {x : Addr} {v0 c0 : Value} (E : RoadKit.Exa Z U.heap x ST) (V : RoadKit.Fld Z U.heap x ST "value" "[B" v0) (C : RoadKit.Fld Z U.heap x ST "coder" "B" c0) :
    ∃ (D : Cell) (fV fC : Field), Blank ST x D U ∧ Found ST "value" "[B" fV U ∧ Found ST "coder" "B" fC U ∧ D.slots[fV.slot]? = some v0 ∧ D.slots[fC.slot]? = some c0 ∧ RoadKit.slotOf Z ST "value" "[B" = fV.slot ∧ RoadKit.slotOf Z ST "coder" "B" = fC.slot := by
  obtain ⟨D, cfV, kV, iV, fV, hD, gV, stV, knV, obV, asV, slV⟩ := V
  obtain ⟨D', cfC, kC, iC, fC, hD', gC, stC, -, -, asC, slC⟩ := C
  cases hD.symm.trans hD'
  obtain ⟨D2, kD, e1, e2, e3, e4, e5⟩ := E
  cases hD.symm.trans e1
  obtain ⟨c2, k2, i1, i2, i3, -⟩ := Cond.instantiable_spec wi
  cases e2.symm.trans i1
  cases e3.symm.trans i2
  obtain ⟨kU, u1, u2⟩ := al.2.2 _ _ e3
  exact ⟨D, fV, fC, ⟨hD, ⟨knV, fun q hq => by rw [hq] at obV; cases obV⟩, by rw [al.findClass]; exact e2, kU, u1, by rw [u2]; exact i3, by rw [u2]; exact e5 i3⟩, ⟨SBG.found_only al ⟨cfV, kV, iV, gV⟩, stV⟩, ⟨SBG.found_only al ⟨cfC, kC, iC, gC⟩, stC⟩, slV, slC, by simp [RoadKit.slotOf, gV], by simp [RoadKit.slotOf, gC]⟩
theorem sta_is {Z U : State} (al : Z.vm.Alike U.vm) {C n d : String} {v : Value} (S : RoadKit.Sta Z U.heap C n d v) : StaticIs U C n d v := by
  obtain ⟨cfS, iS, kS, fS, st, cS, t1, t2, t3, t4, t5, t6, t7⟩ := S
  exact StaticIs.there (s := { Z with heap := U.heap }) ⟨cfS, iS, kS, fS, st, cS, t1, t2, t3, t4, t5, (fun q => by rw [q] at t6; cases t6), t7⟩ al rfl
end StrChars.Road
namespace StrChars
open Jvm Sem ClassFile Op Lib Jvm.Stand Jvm.Free.XT Jvm.Free.ALB Jvm.Free.JM Jvm.Free
open Jvm.Lib.Cold (StaticIs)
/-- what place i of a byte[]'s cell holds -/
def yv (A : Cell) (i : Nat) : Int32 := match A.slots[i]? with | some (.int x) => x | _ => 0
theorem yv_get {a : Addr} {A : Cell} {U : State} (h : XT.Arr .byte a A U) (ht : Typed .byte A) {i : Nat} (hi : i < A.slots.size) : A.slots[i]? = some (.int (yv A i)) := by
  have e := Array.getElem?_eq_getElem hi
  have f := ht i _ e
  unfold yv; rw [e]
  generalize A.slots[i] = v at f
  cases v <;> simp [fits] at f ⊢
/-- the two arrays are equal, place for place -/
def EqC (A B : Cell) : Prop := A.slots.size = B.slots.size ∧ ∀ i, i < A.slots.size → yv A i = yv B i
/-- a boolean that says whether p -/
def Says01 (q : Prop) (r : Option Value) (s u : State) : Prop := ∃ v : Int32, r = some (.int v) ∧ u.heap = s.heap ∧ ((v = 1 ∧ q) ∨ (v = 0 ∧ ¬ q))
theorem Says01.mv {q : Prop} : ∀ r (U U' V V' : State), U'.heap = U.heap → V.vm.Alike V'.vm → V'.heap = V.heap → Says01 q r U V → Says01 q r U' V' :=
  fun r U U' V V' h1 _ h2 ⟨v, a, b, c⟩ => ⟨v, a, by rw [h1, h2]; exact b, c⟩
namespace LEq
def yN : MethodName := ⟨"java/lang/StringLatin1", "equals", "([B[B)Z"⟩
abbrev yB : ByteArray := jdk_43_method_13_code
theorem d0 : decode yB 0 = .ok (.aload_n 0, 1) := by decide +kernel
theorem d1 : decode yB 1 = .ok (.arraylength, 1) := by decide +kernel
theorem d2 : decode yB 2 = .ok (.aload_n 1, 1) := by decide +kernel
theorem d3 : decode yB 3 = .ok (.arraylength, 1) := by decide +kernel
theorem d4 : decode yB 4 = .ok (.if_icmp (.ne) 30, 3) := by decide +kernel
theorem d7 : decode yB 7 = .ok (.iconst 0, 1) := by decide +kernel
theorem d8 : decode yB 8 = .ok (.istore_n 2, 1) := by decide +kernel
theorem d9 : decode yB 9 = .ok (.iload_n 2, 1) := by decide +kernel
theorem d10 : decode yB 10 = .ok (.aload_n 0, 1) := by decide +kernel
theorem d11 : decode yB 11 = .ok (.arraylength, 1) := by decide +kernel
theorem d12 : decode yB 12 = .ok (.if_icmp (.ge) 20, 3) := by decide +kernel
theorem d15 : decode yB 15 = .ok (.aload_n 0, 1) := by decide +kernel
theorem d16 : decode yB 16 = .ok (.iload_n 2, 1) := by decide +kernel
theorem d17 : decode yB 17 = .ok (.baload, 1) := by decide +kernel
theorem d18 : decode yB 18 = .ok (.aload_n 1, 1) := by decide +kernel
theorem d19 : decode yB 19 = .ok (.iload_n 2, 1) := by decide +kernel
theorem d20 : decode yB 20 = .ok (.baload, 1) := by decide +kernel
theorem d21 : decode yB 21 = .ok (.if_icmp (.eq) 5, 3) := by decide +kernel
theorem d24 : decode yB 24 = .ok (.iconst 0, 1) := by decide +kernel
theorem d25 : decode yB 25 = .ok (.ireturn, 1) := by decide +kernel
theorem d26 : decode yB 26 = .ok (.iinc 2 1, 3) := by decide +kernel
theorem d29 : decode yB 29 = .ok (.goto (-20), 3) := by decide +kernel
theorem d32 : decode yB 32 = .ok (.iconst 1, 1) := by decide +kernel
theorem d33 : decode yB 33 = .ok (.ireturn, 1) := by decide +kernel
theorem d34 : decode yB 34 = .ok (.iconst 0, 1) := by decide +kernel
theorem d35 : decode yB 35 = .ok (.ireturn, 1) := by decide +kernel
def site : List Cond := []
def tab : Cond := tabOf yN yB 3 (some .boolean) site
def P (a : Addr) (A : Cell) (b : Addr) (B : Cell) (args : Array Value) (s : State) : Prop := args = #[.ref a, .ref b] ∧ XT.Arr .byte a A s ∧ Typed .byte A ∧ XT.Arr .byte b B s ∧ Typed .byte B
/-- whether two byte[] are equal, place for place -/
theorem law (l : Launch) (a : Addr) (A : Cell) (b : Addr) (B : Cell) : Law l yN 2 2 0 0 yB 3 (some .boolean) site (P a A b B) (Says01 (EqC A B)) [] 0 0 := by
  refine Law.of_walk (plainFor_of_name (by decide +kernel)) (by decide +kernel) (by decide +kernel) (by decide) (fun _ _ h => by rw [h.1]; rfl) (fun _ U U' hal hh h => ⟨h.1, h.2.1.mv hal hh, h.2.2.1, h.2.2.2.1.mv hal hh, h.2.2.2.2⟩) (fun r U U' V V' h1 hal h2 h => Says01.mv r U U' V V' h1 hal h2 h) ?_
  intro p e s m args below meth c s₁ X0 hexec hbytes hml hret hlk hnm hown hh0 W hP
  obtain ⟨rfl, hA, tA, hB, tB⟩ := hP
  have a31 := hA.2.2.2
  have b31 := hB.2.2.2
  have hA0 := hA.mv X0.warmed.alike hh0
  have hB0 := hB.mv X0.warmed.alike hh0
  have c1 : Steps p.tables e below (s₁.setTop (entryFrame m #[.ref a, .ref b] 3)) (s₁.setTop (mkF m 0 #[.val (.ref a), .val (.ref b), .unset] [])) := entry rfl
  have c2 : Steps p.tables e below (s₁.setTop (entryFrame m #[.ref a, .ref b] 3)) (s₁.setTop (mkF m 4 #[.val (.ref a), .val (.ref b), .unset] [.int (Int32.ofNat B.slots.size), .int (Int32.ofNat A.slots.size)])) := c1.trans (by
    refine XS.aloadN X0.here hexec rfl (hb hbytes d0) rfl rfl ?_
    refine X0.alen hexec hA0 rfl rfl (hb hbytes d1) ?_
    refine XS.aloadN X0.here hexec rfl (hb hbytes d2) rfl rfl ?_
    refine X0.alen hexec hB0 rfl rfl (hb hbytes d3) ?_
    exact Steps.refl _)
  by_cases hs : A.slots.size = B.slots.size
  · have c3 : Steps p.tables e below (s₁.setTop (entryFrame m #[.ref a, .ref b] 3)) (s₁.setTop (mkF m 9 #[.val (.ref a), .val (.ref b), .val (.int 0)] [])) := c2.trans (by
      refine XS.icmpNo X0.here hexec rfl (hb hbytes d4) rfl (ii_ne_f (by rw [hs])) ?_
      refine iconstV X0.here hexec rfl 0 (hb hbytes d7) (by decide) ?_
      refine XS.istoreN X0.here hexec rfl (hb hbytes d8) rfl rfl ?_
      exact Steps.refl _)
    have loop : ∀ (r i : Nat), i + r = A.slots.size → (∀ j, j < i → yv A j = yv B j) → Steps p.tables e below (s₁.setTop (entryFrame m #[.ref a, .ref b] 3)) (s₁.setTop (mkF m 9 #[.val (.ref a), .val (.ref b), .val (.int (Int32.ofNat i))] [])) → ∃ (pc : Nat) (Ls : Array Slot) (v : Int32), (pc = 25 ∨ pc = 33) ∧ ((v = 1 ∧ EqC A B) ∨ (v = 0 ∧ ¬ EqC A B)) ∧ Steps p.tables e below (s₁.setTop (entryFrame m #[.ref a, .ref b] 3)) (s₁.setTop (mkF m pc Ls [.int v])) := by
      intro r
      induction r with
      | zero =>
        intro i hi he cl
        exact ⟨33, _, 1, Or.inr rfl, Or.inl ⟨rfl, hs, fun j hj => he j (by omega)⟩, cl.trans (by
          refine XS.iloadN X0.here hexec rfl (hb hbytes d9) rfl ?_
          refine XS.aloadN X0.here hexec rfl (hb hbytes d10) rfl rfl ?_
          refine X0.alen hexec hA0 rfl rfl (hb hbytes d11) ?_
          refine XS.icmpYes X0.here hexec rfl (pc0 := 12) rfl (hb hbytes d12) rfl (ii_ge_t (nlt32 (by omega) (by omega))) (by decide) rfl ?_
          refine iconstV X0.here hexec rfl 1 (hb hbytes d32) (by decide) ?_
          exact Steps.refl _)⟩
      | succ r ih =>
        intro i hi he cl
        have c4 : Steps p.tables e below (s₁.setTop (entryFrame m #[.ref a, .ref b] 3)) (s₁.setTop (mkF m 21 #[.val (.ref a), .val (.ref b), .val (.int (Int32.ofNat i))] [.int (yv B i), .int (yv A i)])) := cl.trans (by
          refine XS.iloadN X0.here hexec rfl (hb hbytes d9) rfl ?_
          refine XS.aloadN X0.here hexec rfl (hb hbytes d10) rfl rfl ?_
          refine X0.alen hexec hA0 rfl rfl (hb hbytes d11) ?_
          refine XS.icmpNo X0.here hexec rfl (hb hbytes d12) rfl (ii_ge_f (lt32 (by omega) (by omega))) ?_
          refine XS.aloadN X0.here hexec rfl (hb hbytes d15) rfl rfl ?_
          refine XS.iloadN X0.here hexec rfl (hb hbytes d16) rfl ?_
          refine X0.aget hexec hA0 rfl (yv_get hA tA (i := i) (by omega)) rfl rfl (hb hbytes d17) ?_
          refine XS.aloadN X0.here hexec rfl (hb hbytes d18) rfl rfl ?_
          refine XS.iloadN X0.here hexec rfl (hb hbytes d19) rfl ?_
          refine X0.aget hexec hB0 rfl (yv_get hB tB (i := i) (by omega)) rfl rfl (hb hbytes d20) ?_
          exact Steps.refl _)
        by_cases hv : yv A i = yv B i
        · have c5 : Steps p.tables e below (s₁.setTop (entryFrame m #[.ref a, .ref b] 3)) (s₁.setTop (mkF m 9 #[.val (.ref a), .val (.ref b), .val (.int (Int32.ofNat i + 1))] [])) := c4.trans (by
            refine XS.icmpYes X0.here hexec rfl (pc0 := 21) rfl (hb hbytes d21) rfl (ii_eq_t hv) (by decide) rfl ?_
            refine iincV X0.here hexec rfl 1 (hb hbytes d26) (by decide) rfl rfl ?_
            refine XS.goto X0.here hexec rfl (pc0 := 29) rfl (hb hbytes d29) (by decide) rfl ?_
            exact Steps.refl _)
          rw [succ32] at c5
          exact ih (i + 1) (by omega) (fun j hj => by
            by_cases e : j = i
            · rw [e]; exact hv
            · exact he j (by omega)) c5
        · exact ⟨25, _, 0, Or.inl rfl, Or.inr ⟨rfl, fun q => hv (q.2 i (by omega))⟩, c4.trans (by
            refine XS.icmpNo X0.here hexec rfl (hb hbytes d21) rfl (ii_eq_f hv) ?_
            refine iconstV X0.here hexec rfl 0 (hb hbytes d24) (by decide) ?_
            exact Steps.refl _)⟩
    obtain ⟨pc, Ls, v, hpc, hv, cz⟩ := loop A.slots.size 0 (by omega) (fun j hj => absurd hj (Nat.not_lt_zero j)) c3
    have nv : narrow .boolean (.int v) = .int v := by rcases hv with ⟨rfl, -⟩ | ⟨rfl, -⟩ <;> rfl
    rcases hpc with rfl | rfl
    · exact ⟨s₁, some (.int v), _, _, _, X0, rfl, rfl, rfl, (fun h => by cases h), ⟨v, rfl, hh0, hv⟩, fun fs hl => cz.trans (X0.ireturnOut hexec hret nv (Or.inr (Or.inl rfl)) (hb hbytes d25) hl)⟩
    · exact ⟨s₁, some (.int v), _, _, _, X0, rfl, rfl, rfl, (fun h => by cases h), ⟨v, rfl, hh0, hv⟩, fun fs hl => cz.trans (X0.ireturnOut hexec hret nv (Or.inr (Or.inl rfl)) (hb hbytes d33) hl)⟩
  · have c3 : Steps p.tables e below (s₁.setTop (entryFrame m #[.ref a, .ref b] 3)) (s₁.setTop (mkF m 35 #[.val (.ref a), .val (.ref b), .unset] [.int 0])) := c2.trans (by
      refine XS.icmpYes X0.here hexec rfl (pc0 := 4) rfl (hb hbytes d4) rfl (ii_ne_t (ne32 a31 b31 hs)) (by decide) rfl ?_
      refine iconstV X0.here hexec rfl 0 (hb hbytes d34) (by decide) ?_
      exact Steps.refl _)
    exact ⟨s₁, some (.int 0), _, _, _, X0, rfl, rfl, rfl, (fun h => by cases h), ⟨0, rfl, hh0, Or.inr ⟨rfl, fun q => hs q.1⟩⟩, fun fs hl => c3.trans (X0.ireturnOut hexec hret rfl (Or.inr (Or.inl rfl)) (hb hbytes d35) hl)⟩
end LEq
theorem Cod.ty {cd : Int32} {n : Nat} {f : Nat → Int32} {V : Cell} (h : Cod cd n f V) : Typed .byte V := fun i v hv => by
  have hi : i < V.slots.size := (Array.getElem?_eq_some_iff.mp hv).1
  rcases h with ⟨-, k1, k2⟩ | ⟨-, k1, k2, -⟩
  · rw [(k2 i (by omega)).1] at hv; cases hv; exact fits_lo8 _
  · rcases Nat.mod_two_eq_zero_or_one i with e | e
    · obtain ⟨j, rfl⟩ : ∃ j, i = 2 * j := ⟨i / 2, by omega⟩
      rw [(k2 j (by omega)).1] at hv; cases hv; exact fits_lo8 _
    · obtain ⟨j, rfl⟩ : ∃ j, i = 2 * j + 1 := ⟨i / 2, by omega⟩
      rw [(k2 j (by omega)).2] at hv; cases hv; exact fits_lo8 _
/-- the same text -/
def SameT (n : Nat) (f : Nat → Int32) (k : Nat) (g : Nat → Int32) : Prop := n = k ∧ ∀ j, j < n → f j = g j
theorem lo8_inj {x y : Int32} (h0 : ¬ x < 0) (h1 : ¬ 255 < x) (k0 : ¬ y < 0) (k1 : ¬ 255 < y) (h : lo8 x = lo8 y) : x = y := by
  rw [← lo8_mask h0 h1, ← lo8_mask k0 k1, h]
/-- arrays coded by one coder are equal just where the texts are -/
theorem Cod.eqv {cd : Int32} {n k : Nat} {f g : Nat → Int32} {V V' : Cell} (h : Cod cd n f V) (h' : Cod cd k g V') (hf : ∀ j, j < n → ¬ f j < 0 ∧ ¬ 65535 < f j) (hg : ∀ j, j < k → ¬ g j < 0 ∧ ¬ 65535 < g j) : EqC V V' ↔ SameT n f k g := by
  have yvv : ∀ {W : Cell} {i : Nat} {x : Int32}, W.slots[i]? = some (.int x) → yv W i = x := fun q => by unfold yv; rw [q]
  rcases h with ⟨rfl, k1, k2⟩ | ⟨rfl, k1, k2, -⟩
  · rcases h' with ⟨-, m1, m2⟩ | ⟨e, -⟩
    · constructor
      · rintro ⟨e1, e2⟩
        refine ⟨by omega, fun j hj => ?_⟩
        have q := e2 j (by omega)
        rw [yvv (k2 j hj).1, yvv (m2 j (by omega)).1] at q
        exact lo8_inj (hf j hj).1 (k2 j hj).2 (hg j (by omega)).1 (m2 j (by omega)).2 q
      · rintro ⟨rfl, e2⟩
        refine ⟨by omega, fun j hj => ?_⟩
        rw [yvv (k2 j (by omega)).1, yvv (m2 j (by omega)).1, e2 j (by omega)]
    · exact absurd e (by decide)
  · rcases h' with ⟨e, -⟩ | ⟨-, m1, m2, -⟩
    · exact absurd e (by decide)
    · constructor
      · rintro ⟨e1, e2⟩
        refine ⟨by omega, fun j hj => ?_⟩
        have q1 := e2 (2 * j) (by omega)
        have q2 := e2 (2 * j + 1) (by omega)
        rw [yvv (k2 j hj).1, yvv (m2 j (by omega)).1] at q1
        rw [yvv (k2 j hj).2, yvv (m2 j (by omega)).2] at q2
        rw [← pair_says (hf j hj).1 (hf j hj).2, ← pair_says (hg j (by omega)).1 (hg j (by omega)).2, q1, q2]
      · rintro ⟨rfl, e2⟩
        refine ⟨by omega, fun i hi => ?_⟩
        rcases Nat.mod_two_eq_zero_or_one i with e | e
        · obtain ⟨j, rfl⟩ : ∃ j, i = 2 * j := ⟨i / 2, by omega⟩
          rw [yvv (k2 j (by omega)).1, yvv (m2 j (by omega)).1, e2 j (by omega)]
        · obtain ⟨j, rfl⟩ : ∃ j, i = 2 * j + 1 := ⟨i / 2, by omega⟩
          rw [yvv (k2 j (by omega)).2, yvv (m2 j (by omega)).2, e2 j (by omega)]
/-- two codings differ: so do the texts -/
theorem Cod.dif {cd cd' : Int32} {n k : Nat} {f g : Nat → Int32} {V V' : Cell} (h : Cod cd n f V) (h' : Cod cd' k g V') (hne : ¬ cd = cd') : ¬ SameT n f k g := by
  rintro ⟨rfl, e⟩
  rcases h with ⟨rfl, -, k2⟩ | ⟨rfl, -, -, j, hj, hw⟩
  · rcases h' with ⟨rfl, -⟩ | ⟨-, -, -, j, hj, hw⟩
    · exact hne rfl
    · exact (k2 j hj).2 (by rw [e j hj]; exact hw)
  · rcases h' with ⟨-, -, m2⟩ | ⟨rfl, -⟩
    · exact (m2 j hj).2 (by rw [← e j hj]; exact hw)
    · exact hne rfl
/-- an object of exactly C is an instance of C -/
theorem cinst {p : Program} {l : Launch} {e : Env} {R : Room} {s : State} {m : MethodId} {args : Array Value} {below : List Frame} {meth : Method} {c : Code} {T : State} {locs : List Loc} {cells slots : Nat} (X : Stand p l e R s m args below meth c T locs cells slots) (hexec : p.tables.exec = Jvm.exec) {own C : String} {index : Nat} (hown : s.vm.findClass own = some m.cls) (hlink : (Cond.classLink own index C).before args s = true) {a : Addr} (hE : Exact C a T)
    {g : JFrame} (hg : g.method = m) {rest : List Value} (hstack : g.stack = .ref a :: rest) (hdg : decode c.code g.pc = .ok (.instanceof index, 3)) :
    ∃ T', Stand p l e R s m args below meth c T' locs cells slots ∧ T'.heap = T.heap ∧ ∀ target, Steps p.tables e below (T'.setTop { g with pc := g.pc + 3, stack := .int 1 :: rest }) target → Steps p.tables e below (T.setTop g) target := by
  obtain ⟨cB, h1, D, h2, h3, h4⟩ := hE
  have h1' : s.vm.findClass C = some cB := by rw [← X.warmed.alike.findClass]; exact h1
  obtain ⟨vm', X', st⟩ := X.instanceofYes hexec hown hlink h2 h4 h1' (by rw [h3]; exact Jvm.Free.SB.assignable_self _ _) hg hstack hdg
  exact ⟨_, X', rfl, st⟩
theorem cself {p : Program} {l : Launch} {e : Env} {R : Room} {s : State} {m : MethodId} {args : Array Value} {below : List Frame} {meth : Method} {c : Code} {T : State} {locs : List Loc} {cells slots : Nat} (X : Stand p l e R s m args below meth c T locs cells slots) (hexec : p.tables.exec = Jvm.exec) {own C : String} {index : Nat} (hown : s.vm.findClass own = some m.cls) (hlink : (Cond.classLink own index C).before args s = true) {a : Addr} (hE : Exact C a T)
    {g : JFrame} (hg : g.method = m) {rest : List Value} (hstack : g.stack = .ref a :: rest) (hdg : decode c.code g.pc = .ok (.checkcast index, 3)) :
    ∃ T', Stand p l e R s m args below meth c T' locs cells slots ∧ T'.heap = T.heap ∧ ∀ target, Steps p.tables e below (T'.setTop { g with pc := g.pc + 3, stack := .ref a :: rest }) target → Steps p.tables e below (T.setTop g) target := by
  obtain ⟨cB, h1, D, h2, h3, h4⟩ := hE
  have h1' : s.vm.findClass C = some cB := by rw [← X.warmed.alike.findClass]; exact h1
  obtain ⟨vm', X', st⟩ := X.checkcastYes hexec hown hlink h2 h4 h1' (by rw [h3]; exact Jvm.Free.SB.assignable_self _ _) hg hstack hdg
  exact ⟨_, X', rfl, fun t h => st t (by rw [← hstack] at h; exact h)⟩
namespace SEq
def yN : MethodName := ⟨"java/lang/String", "equals", "(Ljava/lang/Object;)Z"⟩
abbrev yB : ByteArray := jdk_42_method_66_code
theorem d0 : decode yB 0 = .ok (.aload_n 0, 1) := by decide +kernel
theorem d1 : decode yB 1 = .ok (.aload_n 1, 1) := by decide +kernel
theorem d2 : decode yB 2 = .ok (.if_acmp (.ne) 5, 3) := by decide +kernel
theorem d5 : decode yB 5 = .ok (.iconst 1, 1) := by decide +kernel
theorem d6 : decode yB 6 = .ok (.ireturn, 1) := by decide +kernel
theorem d7 : decode yB 7 = .ok (.aload_n 1, 1) := by decide +kernel
theorem d8 : decode yB 8 = .ok (.instanceof 10, 3) := by decide +kernel
theorem d11 : decode yB 11 = .ok (.ifCond (.eq) 43, 3) := by decide +kernel
theorem d14 : decode yB 14 = .ok (.aload_n 1, 1) := by decide +kernel
theorem d15 : decode yB 15 = .ok (.checkcast 10, 3) := by decide +kernel
theorem d18 : decode yB 18 = .ok (.astore_n 2, 1) := by decide +kernel
theorem d19 : decode yB 19 = .ok (.getstatic 38, 3) := by decide +kernel
theorem d22 : decode yB 22 = .ok (.ifCond (.eq) 14, 3) := by decide +kernel
theorem d25 : decode yB 25 = .ok (.aload_n 0, 1) := by decide +kernel
theorem d26 : decode yB 26 = .ok (.getfield 15, 3) := by decide +kernel
theorem d29 : decode yB 29 = .ok (.aload_n 2, 1) := by decide +kernel
theorem d30 : decode yB 30 = .ok (.getfield 15, 3) := by decide +kernel
theorem d33 : decode yB 33 = .ok (.if_icmp (.ne) 21, 3) := by decide +kernel
theorem d36 : decode yB 36 = .ok (.aload_n 0, 1) := by decide +kernel
theorem d37 : decode yB 37 = .ok (.getfield 9, 3) := by decide +kernel
theorem d40 : decode yB 40 = .ok (.aload_n 2, 1) := by decide +kernel
theorem d41 : decode yB 41 = .ok (.getfield 9, 3) := by decide +kernel
theorem d44 : decode yB 44 = .ok (.invokestatic 541, 3) := by decide +kernel
theorem d47 : decode yB 47 = .ok (.ifCond (.eq) 7, 3) := by decide +kernel
theorem d50 : decode yB 50 = .ok (.iconst 1, 1) := by decide +kernel
theorem d51 : decode yB 51 = .ok (.goto 4, 3) := by decide +kernel
theorem d54 : decode yB 54 = .ok (.iconst 0, 1) := by decide +kernel
theorem d55 : decode yB 55 = .ok (.ireturn, 1) := by decide +kernel
def site : List Cond := [.classLink "java/lang/String" 10 "java/lang/String", .fieldLink "java/lang/String" 38 "java/lang/String" "COMPACT_STRINGS" "Z", .fieldLink "java/lang/String" 15 "java/lang/String" "coder" "B", .fieldLink "java/lang/String" 9 "java/lang/String" "value" "[B", LEq.tab] ++ staticW "java/lang/String" 541 LEq.yN
def tab : Cond := tabOf yN yB 3 (some .boolean) site
def P (x t : Addr) (V : Cell) (cd : Int32) (n : Nat) (f : Nat → Int32) (y t' : Addr) (V' : Cell) (cd' : Int32) (k : Nat) (g : Nat → Int32) (z : Int32) (args : Array Value) (s : State) : Prop := args = #[.ref x, .ref y] ∧ Txt x t V cd n f s ∧ Txt y t' V' cd' k g s ∧ StaticIs s "java/lang/String" "COMPACT_STRINGS" "Z" (.int z) ∧ ¬ z = 0
/-- equals(Object) of two Strings: whether the texts are the same -/
theorem law (l : Launch) (x t : Addr) (V : Cell) (cd : Int32) (n : Nat) (f : Nat → Int32) (y t' : Addr) (V' : Cell) (cd' : Int32) (k : Nat) (g : Nat → Int32) (z : Int32) : Law l yN 2 1 1 14 yB 3 (some .boolean) site (P x t V cd n f y t' V' cd' k g z) (Says01 (SameT n f k g)) [] 0 0 := by
  refine Law.of_walk (plainFor_of_name (by decide +kernel)) (by decide +kernel) (by decide +kernel) (by decide) (fun _ _ h => by rw [h.1]; rfl) (fun _ U U' hal hh h => ⟨h.1, h.2.1.mv hal hh, h.2.2.1.mv hal hh, h.2.2.2.1.there hal hh, h.2.2.2.2⟩) (fun r U U' V V' h1 hal h2 h => Says01.mv r U U' V V' h1 hal h2 h) ?_
  intro p e s m args below meth c s₁ X0 hexec hbytes hml hret hlk hnm hown hh0 W hP
  obtain ⟨rfl, hx, hy, s1, hz⟩ := hP
  have c1 : Steps p.tables e below (s₁.setTop (entryFrame m #[.ref x, .ref y] 3)) (s₁.setTop (mkF m 2 #[.val (.ref x), .val (.ref y), .unset] [.ref y, .ref x])) := Steps.trans (entry rfl) (by
    show Steps p.tables e below (s₁.setTop (mkF m 0 #[.val (.ref x), .val (.ref y), .unset] [])) _
    refine XS.aloadN X0.here hexec rfl (hb hbytes d0) rfl rfl ?_
    refine XS.aloadN X0.here hexec rfl (hb hbytes d1) rfl rfl ?_
    exact Steps.refl _)
  by_cases hxy : x = y
  · have c2 : Steps p.tables e below (s₁.setTop (entryFrame m #[.ref x, .ref y] 3)) (s₁.setTop (mkF m 6 #[.val (.ref x), .val (.ref y), .unset] [.int 1])) := c1.trans (by
      refine acmpNo X0.here hexec rfl (hb hbytes d2) rfl rfl rfl (by simp [acmp, hxy]) ?_
      refine iconstV X0.here hexec rfl 1 (hb hbytes d5) (by decide) ?_
      exact Steps.refl _)
    subst hxy
    have ec : cd = cd' := by
      obtain ⟨D, fd, a1, a2, a3⟩ := hx.2.2.1
      obtain ⟨D', fd', b1, b2, b3⟩ := hy.2.2.1
      cases a1.symm.trans b1
      obtain ⟨q1, q2, q3, q4⟩ := a2.1
      obtain ⟨r1, r2, r3, r4⟩ := b2.1
      cases q4.symm.trans r4
      cases a3.symm.trans b3; rfl
    have et : t = t' := by
      obtain ⟨D, fd, a1, a2, a3⟩ := hx.2.1
      obtain ⟨D', fd', b1, b2, b3⟩ := hy.2.1
      cases a1.symm.trans b1
      obtain ⟨q1, q2, q3, q4⟩ := a2.1
      obtain ⟨r1, r2, r3, r4⟩ := b2.1
      cases q4.symm.trans r4
      cases a3.symm.trans b3; rfl
    subst ec et
    have ev : V = V' := by cases hx.2.2.2.1.1.symm.trans hy.2.2.2.1.1; rfl
    subst ev
    have hs : SameT n f k g := (Cod.eqv hx.2.2.2.2.1 hy.2.2.2.2.1 hx.2.2.2.2.2 hy.2.2.2.2.2).mp ⟨rfl, fun _ _ => rfl⟩
    exact ⟨s₁, some (.int 1), _, _, _, X0, rfl, rfl, rfl, (fun h => by cases h), ⟨1, rfl, hh0, Or.inl ⟨rfl, hs⟩⟩, fun fs hl => c2.trans (X0.ireturnOut hexec hret rfl (Or.inr (Or.inl rfl)) (hb hbytes d6) hl)⟩
  · have c2 : Steps p.tables e below (s₁.setTop (entryFrame m #[.ref x, .ref y] 3)) (s₁.setTop (mkF m 8 #[.val (.ref x), .val (.ref y), .unset] [.ref y])) := c1.trans (by
      refine acmpYes X0.here hexec rfl (pc0 := 2) rfl (hb hbytes d2) rfl rfl rfl (by simp [acmp, hxy]) (by decide) rfl ?_
      refine XS.aloadN X0.here hexec rfl (hb hbytes d7) rfl rfl ?_
      exact Steps.refl _)
    obtain ⟨T3, X3, q3, st3⟩ := cinst X0 hexec hown (wk W (.classLink "java/lang/String" 10 "java/lang/String")) (hy.mv X0.warmed.alike hh0).1 (g := (mkF m 8 #[.val (.ref x), .val (.ref y), .unset] [.ref y])) rfl (rest := []) rfl (hb hbytes d8)
    have hh3 := q3.trans hh0
    have c4 : Steps p.tables e below (s₁.setTop (entryFrame m #[.ref x, .ref y] 3)) (T3.setTop (mkF m 15 #[.val (.ref x), .val (.ref y), .unset] [.ref y])) := (c2.trans (st3 _ (Steps.refl _))).trans (by
      refine XS.ifNo X3.here hexec rfl (hb hbytes d11) rfl (i0_eq_f (by decide)) ?_
      refine XS.aloadN X3.here hexec rfl (hb hbytes d14) rfl rfl ?_
      exact Steps.refl _)
    obtain ⟨T5, X5, q5, st5⟩ := cself X3 hexec hown (wk W (.classLink "java/lang/String" 10 "java/lang/String")) (hy.mv X3.warmed.alike hh3).1 (g := (mkF m 15 #[.val (.ref x), .val (.ref y), .unset] [.ref y])) rfl (rest := []) rfl (hb hbytes d15)
    have hh5 := q5.trans hh3
    have c6 : Steps p.tables e below (s₁.setTop (entryFrame m #[.ref x, .ref y] 3)) (T5.setTop (mkF m 19 #[.val (.ref x), .val (.ref y), .val (.ref y)] [])) := (c4.trans (st5 _ (Steps.refl _))).trans (by
      refine XS.astoreN X5.here hexec rfl (hb hbytes d18) rfl rfl rfl ?_
      exact Steps.refl _)
    obtain ⟨T7, X7, q7, st7⟩ := X5.sget hexec hown (wk W (.fieldLink "java/lang/String" 38 "java/lang/String" "COMPACT_STRINGS" "Z")) s1 (fun _ _ h => by rw [hh5]; exact h) (g := (mkF m 19 #[.val (.ref x), .val (.ref y), .val (.ref y)] [])) rfl (hb hbytes d19)
    have hh7 := q7.trans hh5
    have c8 : Steps p.tables e below (s₁.setTop (entryFrame m #[.ref x, .ref y] 3)) (T7.setTop (mkF m 26 #[.val (.ref x), .val (.ref y), .val (.ref y)] [.ref x])) := (c6.trans (st7 _ (Steps.refl _))).trans (by
      refine XS.ifNo X7.here hexec rfl (hb hbytes d22) rfl (i0_eq_f hz) ?_
      refine XS.aloadN X7.here hexec rfl (hb hbytes d25) rfl rfl ?_
      exact Steps.refl _)
    obtain ⟨T9, X9, q9, st9⟩ := X7.hget hexec hown (wk W (.fieldLink "java/lang/String" 15 "java/lang/String" "coder" "B")) (hx.mv X7.warmed.alike hh7).2.2.1 (g := (mkF m 26 #[.val (.ref x), .val (.ref y), .val (.ref y)] [.ref x])) rfl (rest := []) rfl (hb hbytes d26)
    have hh9 := q9.trans hh7
    have c10 : Steps p.tables e below (s₁.setTop (entryFrame m #[.ref x, .ref y] 3)) (T9.setTop (mkF m 30 #[.val (.ref x), .val (.ref y), .val (.ref y)] [.ref y, .int cd])) := (c8.trans (st9 _ (Steps.refl _))).trans (by
      refine XS.aloadN X9.here hexec rfl (hb hbytes d29) rfl rfl ?_
      exact Steps.refl _)
    obtain ⟨T11, X11, q11, st11⟩ := X9.hget hexec hown (wk W (.fieldLink "java/lang/String" 15 "java/lang/String" "coder" "B")) (hy.mv X9.warmed.alike hh9).2.2.1 (g := (mkF m 30 #[.val (.ref x), .val (.ref y), .val (.ref y)] [.ref y, .int cd])) rfl (rest := [.int cd]) rfl (hb hbytes d30)
    have hh11 := q11.trans hh9
    have c12 : Steps p.tables e below (s₁.setTop (entryFrame m #[.ref x, .ref y] 3)) (T11.setTop (mkF m 33 #[.val (.ref x), .val (.ref y), .val (.ref y)] [.int cd', .int cd])) := c10.trans (st11 _ (Steps.refl _))
    by_cases hcd : cd = cd'
    · subst hcd
      have c13 : Steps p.tables e below (s₁.setTop (entryFrame m #[.ref x, .ref y] 3)) (T11.setTop (mkF m 37 #[.val (.ref x), .val (.ref y), .val (.ref y)] [.ref x])) := c12.trans (by
        refine XS.icmpNo X11.here hexec rfl (hb hbytes d33) rfl (ii_ne_f rfl) ?_
        refine XS.aloadN X11.here hexec rfl (hb hbytes d36) rfl rfl ?_
        exact Steps.refl _)
      obtain ⟨T14, X14, q14, st14⟩ := X11.hget hexec hown (wk W (.fieldLink "java/lang/String" 9 "java/lang/String" "value" "[B")) (hx.mv X11.warmed.alike hh11).2.1 (g := (mkF m 37 #[.val (.ref x), .val (.ref y), .val (.ref y)] [.ref x])) rfl (rest := []) rfl (hb hbytes d37)
      have hh14 := q14.trans hh11
      have c15 : Steps p.tables e below (s₁.setTop (entryFrame m #[.ref x, .ref y] 3)) (T14.setTop (mkF m 41 #[.val (.ref x), .val (.ref y), .val (.ref y)] [.ref y, .ref t])) := (c13.trans (st14 _ (Steps.refl _))).trans (by
        refine XS.aloadN X14.here hexec rfl (hb hbytes d40) rfl rfl ?_
        exact Steps.refl _)
      obtain ⟨T16, X16, q16, st16⟩ := X14.hget hexec hown (wk W (.fieldLink "java/lang/String" 9 "java/lang/String" "value" "[B")) (hy.mv X14.warmed.alike hh14).2.1 (g := (mkF m 41 #[.val (.ref x), .val (.ref y), .val (.ref y)] [.ref y, .ref t])) rfl (rest := [.ref t]) rfl (hb hbytes d41)
      have hh16 := q16.trans hh14
      have c17 : Steps p.tables e below (s₁.setTop (entryFrame m #[.ref x, .ref y] 3)) (T16.setTop (mkF m 44 #[.val (.ref x), .val (.ref y), .val (.ref y)] [.ref t', .ref t])) := c15.trans (st16 _ (Steps.refl _))
      obtain ⟨v18, T18, X18, E18, g18⟩ := X16.callS hexec (LEq.law l t V t' V') hown (wks W (staticW "java/lang/String" 541 LEq.yN)) (wk W LEq.tab) (W := 0) (Nat.le_of_ble_eq_true rfl) (Nat.le_of_ble_eq_true rfl) (Nat.le_refl _) (Nat.le_refl _) (g := (mkF m 44 #[.val (.ref x), .val (.ref y), .val (.ref y)] [.ref t', .ref t])) rfl (by rw [hml]; rfl) c17 (argsL := [.ref t, .ref t']) (rest := []) rfl rfl (by show 2 * 0 + 0 ≤ _; decide) (hb hbytes d44) (⟨rfl, hx.2.2.2.1.mv X16.warmed.alike hh16, hx.2.2.2.2.1.ty, hy.2.2.2.1.mv X16.warmed.alike hh16, hy.2.2.2.2.1.ty⟩)
      obtain ⟨v, rfl, q18, hv⟩ := E18
      have iff := Cod.eqv hx.2.2.2.2.1 hy.2.2.2.2.1 hx.2.2.2.2.2 hy.2.2.2.2.2
      rcases hv with ⟨rfl, he⟩ | ⟨rfl, he⟩
      · have c19 : Steps p.tables e below (s₁.setTop (entryFrame m #[.ref x, .ref y] 3)) (T18.setTop (mkF m 55 #[.val (.ref x), .val (.ref y), .val (.ref y)] [.int 1])) := Steps.trans g18 (by
          refine XS.ifNo X18.here hexec rfl (hb hbytes d47) rfl (i0_eq_f (by decide)) ?_
          refine iconstV X18.here hexec rfl 1 (hb hbytes d50) (by decide) ?_
          refine XS.goto X18.here hexec rfl (pc0 := 51) rfl (hb hbytes d51) (by decide) rfl ?_
          exact Steps.refl _)
        exact ⟨T18, some (.int 1), _, _, _, X18, rfl, rfl, rfl, (fun h => by cases h), ⟨1, rfl, q18.trans hh16, Or.inl ⟨rfl, iff.mp he⟩⟩, fun fs hl => c19.trans (X18.ireturnOut hexec hret rfl (Or.inr (Or.inl rfl)) (hb hbytes d55) hl)⟩
      · have c19 : Steps p.tables e below (s₁.setTop (entryFrame m #[.ref x, .ref y] 3)) (T18.setTop (mkF m 55 #[.val (.ref x), .val (.ref y), .val (.ref y)] [.int 0])) := Steps.trans g18 (by
          refine XS.ifYes X18.here hexec rfl (pc0 := 47) rfl (hb hbytes d47) rfl (i0_eq_t rfl) (by decide) rfl ?_
          refine iconstV X18.here hexec rfl 0 (hb hbytes d54) (by decide) ?_
          exact Steps.refl _)
        exact ⟨T18, some (.int 0), _, _, _, X18, rfl, rfl, rfl, (fun h => by cases h), ⟨0, rfl, q18.trans hh16, Or.inr ⟨rfl, fun q => he (iff.mpr q)⟩⟩, fun fs hl => c19.trans (X18.ireturnOut hexec hret rfl (Or.inr (Or.inl rfl)) (hb hbytes d55) hl)⟩
    · have c13 : Steps p.tables e below (s₁.setTop (entryFrame m #[.ref x, .ref y] 3)) (T11.setTop (mkF m 55 #[.val (.ref x), .val (.ref y), .val (.ref y)] [.int 0])) := c12.trans (by
        refine XS.icmpYes X11.here hexec rfl (pc0 := 33) rfl (hb hbytes d33) rfl (ii_ne_t hcd) (by decide) rfl ?_
        refine iconstV X11.here hexec rfl 0 (hb hbytes d54) (by decide) ?_
        exact Steps.refl _)
      exact ⟨T11, some (.int 0), _, _, _, X11, rfl, rfl, rfl, (fun h => by cases h), ⟨0, rfl, hh11, Or.inr ⟨rfl, Cod.dif hx.2.2.2.2.1 hy.2.2.2.2.1 hcd⟩⟩, fun fs hl => c13.trans (X11.ireturnOut hexec hret rfl (Or.inr (Or.inl rfl)) (hb hbytes d55) hl)⟩
theorem pays {l : Launch} {R : Room} {p : Program} {e : Env} {below : List Frame} {s : State} {sargs : Array Value} {len W : Nat} (x t : Addr) (V : Cell) (cd : Int32) (n : Nat) (f : Nat → Int32) (y t' : Addr) (V' : Cell) (cd' : Int32) (k : Nat) (g : Nat → Int32) (z : Int32) (htab : tab.before sargs s = true) (hfr : 2 ≤ R.frames) (hlo : W + 28 ≤ R.locals) :
    Back l R p e below s sargs yN len W (fun A₁ a₁ => A₁.cells + 0 ≤ R.cells ∧ A₁.slots + 0 ≤ R.slots ∧ P x t V cd n f y t' V' cd' k g z a₁ A₁.U) (fun A₁ _ v₁ B₁ => Says01 (SameT n f k g) v₁ A₁.U B₁.U ∧ B₁.locs = A₁.locs ++ [] ∧ B₁.cells = A₁.cells + 0 ∧ B₁.slots = A₁.slots + 0) :=
  (law l x t V cd n f y t' V' cd' k g z).pays htab hfr (by omega)
end SEq
end StrChars
namespace StrChars.Road
open Jvm Sem ClassFile Op Lib Jvm.Stand Jvm.Free Jvm.Free.XT
open Jvm.Lib.Cold (StaticIs)
/-- the words of String.equals(Object) -/
abbrev wordsEq : List Jvm.Cond := [.code SEq.yN SEq.yB 3 (some .boolean), .initialized ST, .classLink ST 10 ST, .fieldLink ST 38 ST "COMPACT_STRINGS" "Z", .fieldLink ST 15 ST "coder" "B", .fieldLink ST 9 ST "value" "[B", .methodLink ST 541 LEq.yN, .static LEq.yN, .code LEq.yN LEq.yB 3 (some .boolean), .initialized "java/lang/StringLatin1"]
theorem tabEq_of {a : Array Value} {s : State} (h : ∀ w ∈ wordsEq, w.before a s = true) : SEq.tab.before a s = true := by
  have hl : LEq.tab.before a s = true := unparts (wk h (.code LEq.yN LEq.yB 3 (some .boolean))) (wks h (.initialized LEq.yN.cls :: LEq.site))
  have q := consq hl h
  exact unparts (wk q (.code SEq.yN SEq.yB 3 (some .boolean))) (wks q (.initialized SEq.yN.cls :: SEq.site))
theorem movedEq {Z s : State} {a0 args : Array Value} (hZ : Z.Warmed39 s.vm) (hw : ∀ d ∈ wordsEq, d.before a0 Z = true) : ∀ d ∈ wordsEq, d.before args s = true := fun d hd => by
  have t : ∀ d ∈ wordsEq, (d.onTables && d.keepsFace) = true := by decide +kernel
  exact RoadKit.mv hZ (hw d hd) (t d hd)
/-- the road's facts of a String, as the laws ask it -/
theorem txt_of {Z U : State} {a0 : Array Value} {kI : Nat} (wi : (Jvm.Cond.instantiable ST kI).before a0 Z = true) (al : Z.vm.Alike U.vm) {x t : Addr} {kb : ClassId} {cs : List Int32} {cd N2 : Int32} {vs : List Value} (E : RoadKit.Exa Z U.heap x ST) (V : RoadKit.Fld Z U.heap x ST "value" "[B" (.ref t)) (C : RoadKit.Fld Z U.heap x ST "coder" "B" (.int cd)) (K : RoadKit.Arv Z U.heap t kb .byte N2 vs (.int 0)) (hc : CodA cs cd N2 vs) (hb : ∀ c ∈ cs, ¬ c < 0 ∧ ¬ (65535 : Int32) < c) (l2 : cs.length ≤ 4000) :
    ∃ A, Txt x t A cd cs.length (fun j => cs.getD j 0) U := by
  obtain ⟨A, K1, K2, K3, K4, K5, K6⟩ := K
  have hcod := hc.cod (by omega) K3 K5
  obtain ⟨D, fV, fC, hB, F1, F2, g1, g2, -, -⟩ := strObj wi al E V C
  exact ⟨A, ⟨_, hB.2.2.1, D, hB.1, rfl, by cases q : D.vm <;> first | rfl | exact absurd q (hB.2.1.2 _)⟩, Has.of hB F1 g1, Has.of hB F2 g2, ⟨K1.1, State.isArrayOf_alike al K1.2.1, K1.2.2, by rcases hcod with ⟨-, q, -⟩ | ⟨-, q, -⟩ <;> omega⟩, hcod, fun j hj => by
    have e : cs.getD j 0 = cs[j] := by simp [List.getD_eq_getElem?_getD, hj]
    show ¬ cs.getD j 0 < 0 ∧ ¬ 65535 < cs.getD j 0
    rw [e]; exact hb _ (List.getElem_mem _)⟩
theorem same_list (cs ds : List Int32) : SameT cs.length (fun j => cs.getD j 0) ds.length (fun j => ds.getD j 0) ↔ cs = ds := by
  constructor
  · rintro ⟨e, q⟩
    refine List.ext_getElem e fun j h1 h2 => ?_
    have := q j h1
    simpa [List.getD_eq_getElem?_getD, h1, h2] using this
  · rintro rfl
    exact ⟨rfl, fun _ _ => rfl⟩
/-- **equals(Object) OF TWO SUCH STRINGS**: 1 just where the chars are the same -/
theorem eqW {p : Program} {l : Launch} {e : Env} {R : Room} {s : State} {args : Array Value} {below : List Frame} {len W : Nat} {Z : State} {a0 : Array Value} {h : Heap} (hZ : Z.Warmed39 s.vm) (hw : ∀ d ∈ wordsEq, d.before a0 Z = true) {kI : Nat} (wi : (Jvm.Cond.instantiable ST kI).before a0 Z = true)
    {x t : Addr} {kb : ClassId} {cs : List Int32} {cd N2 : Int32} {vs : List Value} (E : RoadKit.Exa Z h x ST) (V : RoadKit.Fld Z h x ST "value" "[B" (.ref t)) (C : RoadKit.Fld Z h x ST "coder" "B" (.int cd)) (K : RoadKit.Arv Z h t kb .byte N2 vs (.int 0)) (hc : CodA cs cd N2 vs) (hb : ∀ c ∈ cs, ¬ c < 0 ∧ ¬ (65535 : Int32) < c) (l2 : cs.length ≤ 4000)
    {y t' : Addr} {kb' : ClassId} {ds : List Int32} {cd' N2' : Int32} {vs' : List Value} (E' : RoadKit.Exa Z h y ST) (V' : RoadKit.Fld Z h y ST "value" "[B" (.ref t')) (C' : RoadKit.Fld Z h y ST "coder" "B" (.int cd')) (K' : RoadKit.Arv Z h t' kb' .byte N2' vs' (.int 0)) (hc' : CodA ds cd' N2' vs') (hb' : ∀ c ∈ ds, ¬ c < 0 ∧ ¬ (65535 : Int32) < c) (l2' : ds.length ≤ 4000)
    {z : Int32} (S : RoadKit.Sta Z h ST "COMPACT_STRINGS" "Z" (.int z)) (hz : ¬ z = 0) (hfr : 2 ≤ R.frames) (hlo : W + 28 ≤ R.locals) :
    Back l R p e below s args (⟨"java/lang/String", "equals", "(Ljava/lang/Object;)Z"⟩ : MethodName) len W (fun P a => a = #[.ref x, .ref y] ∧ P.U.heap = h ∧ P.cells + 0 ≤ R.cells ∧ P.slots + 0 ≤ R.slots)
      (fun P _ v B => ∃ L, (((v = some (.int 1) ∧ cs = ds) ∨ (v = some (.int 0) ∧ ¬ cs = ds)) ∧ L = [] ∧ B.U.heap = h) ∧ B.locs = P.locs ++ L ∧ B.cells = P.cells + 0 ∧ B.slots = P.slots + 0) := by
  intro m meth c P g ig mk a X hg hsize hdg hW hn hp'
  obtain ⟨rfl, rfl, r1, r2⟩ := hp'
  have al : Z.vm.Alike P.U.vm := hZ.alike.trans X.warmed.alike
  obtain ⟨A, hx⟩ := txt_of wi al E V C K hc hb l2
  obtain ⟨A', hy⟩ := txt_of wi al E' V' C' K' hc' hb' l2'
  obtain ⟨v, B, X', ⟨⟨w, hv, hh, hq⟩, hl, hk, hs⟩, st⟩ := SEq.pays x t A cd cs.length (fun j => cs.getD j 0) y t' A' cd' ds.length (fun j => ds.getD j 0) z (tabEq_of (movedEq hZ hw)) hfr hlo m meth c P g ig mk _ X hg hsize hdg hW hn ⟨r1, r2, rfl, hx, hy, sta_is al S, hz⟩
  refine ⟨v, B, X', ⟨[], ⟨?_, rfl, hh⟩, hl, hk, hs⟩, st⟩
  rcases hq with ⟨rfl, q⟩ | ⟨rfl, q⟩
  · exact Or.inl ⟨hv, (same_list cs ds).mp q⟩
  · exact Or.inr ⟨hv, fun e => q ((same_list cs ds).mpr e)⟩
end StrChars.Road
end Jvm.Pilot.@@N@@
namespace Jvm.Pilot.@@N@@
open Jvm Jvm.ClassFile Sem Op Lib Jvm.Free Jvm.Stand Jvm.LawKit Jvm.RoadKit Bundle Jvm.Own Jvm.Pilot.@@N@@.Jvm.D
/-- at x a String whose chars are cs, its bytes at t -/
def Str (Z : State) (h : Heap) (x t : Addr) (cs : List Int32) : Prop := Exa Z h x "java/lang/String" ∧ Fld Z h x "java/lang/String" "value" "[B" (.ref t) ∧
  ∃ (cd N2 : Int32) (vs : List Value) (kb : ClassId), Fld Z h x "java/lang/String" "coder" "B" (.int cd) ∧ Arv Z h t kb .byte N2 vs (.int 0) ∧ StrChars.Road.CodA cs cd N2 vs ∧ (∀ c ∈ cs, ¬ c < 0 ∧ ¬ (65535 : Int32) < c) ∧ cs.length ≤ 4000
section StrFacts
variable {Z : State} {h h' : Heap} {x t a : Addr} {cs : List Int32} {sl : Nat} {v : Value} {ws : List Addr}
theorem Str.exa (S : Str Z h x t cs) : Exa Z h x "java/lang/String" := S.1
theorem Str.lt (S : Str Z h x t cs) : @LT.lt Nat _ x h.size := S.1.lt
theorem Str.lt' (S : Str Z h x t cs) : @LT.lt Nat _ t h.size := by obtain ⟨-, -, _, _, _, _, -, A, -⟩ := S; exact A.lt
theorem Str.ext (S : Str Z h x t cs) (E : Ext h h') : Str Z h' x t cs := by
  obtain ⟨s1, s2, cd, N2, vs, kb, s3, s4, r⟩ := S; exact ⟨s1.ext E, s2.ext E, cd, N2, vs, kb, s3.ext E, s4.ext E, r⟩
theorem Str.keep (S : Str Z h x t cs) (K : Keep h h' ws) (q : x ∉ ws ∧ t ∉ ws) : Str Z h' x t cs := by
  obtain ⟨s1, s2, cd, N2, vs, kb, s3, s4, r⟩ := S; exact ⟨s1.keep K, s2.keep K q.1, cd, N2, vs, kb, s3.keep K q.1, s4.keep K q.2, r⟩
theorem Str.wr (S : Str Z h x t cs) (W : Wr h h' a sl v) (q : x ≠ a ∧ t ≠ a) : Str Z h' x t cs := S.keep (Keep.of_wr W) ⟨ninS q.1 nin0, ninS q.2 nin0⟩
theorem Str.mk0 {kb : ClassId} {N2 : Int32} {vs : List Value} (E : Exa Z h x "java/lang/String") (V : Fld Z h x "java/lang/String" "value" "[B" (.ref t)) (C : Fld Z h x "java/lang/String" "coder" "B" (.int 0)) (A : Arv Z h t kb .byte N2 vs (.int 0)) (hN : N2 = Int32.ofNat cs.length) (hv : vs = cs.map fun c => .int (StrChars.lo8 c)) (hb : ∀ c ∈ cs, ¬ c < 0 ∧ ¬ (255 : Int32) < c) (hl : cs.length ≤ 4000) : Str Z h x t cs :=
  ⟨E, V, 0, N2, vs, kb, C, A, Or.inl ⟨rfl, hN, hv, fun c hc => (hb c hc).2⟩, fun c hc => ⟨(hb c hc).1, fun w => (hb c hc).2 (Int32.lt_trans (by decide) w)⟩, hl⟩
end StrFacts
theorem own_eq {p : Program} {l : Launch} {e : Env} {R : Room} {s : State} {args : Array Value} {below : List Frame} {W : Nat} {Z : State} {a0 : Array Value} {h : Heap} {kI : Nat} {x t y t' : Addr} {cs ds : List Int32} {z : Int32} (hZ : Z.Warmed39 s.vm) (hw : ∀ d ∈ StrChars.Road.wordsEq, d.before a0 Z = true) (wi : (Jvm.Cond.instantiable "java/lang/String" kI).before a0 Z = true)
    (S : Str Z h x t cs) (S' : Str Z h y t' ds) (SC : Sta Z h "java/lang/String" "COMPACT_STRINGS" "Z" (.int z)) (hz : ¬ z = 0) (hfr : 2 ≤ R.frames) (hlo : W + 28 ≤ R.locals) :
    Back l R p e below s args (⟨"java/lang/String", "equals", "(Ljava/lang/Object;)Z"⟩ : MethodName) 3 W (fun A a => a = #[.ref x, .ref y] ∧ A.U.heap = h ∧ A.cells + 0 ≤ R.cells ∧ A.slots + 0 ≤ R.slots)
      (fun A _ v B => ∃ L, (v = some (.int (if cs = ds then 1 else 0)) ∧ L = [] ∧ h = B.U.heap) ∧ B.locs = A.locs ++ L ∧ B.cells = A.cells + 0 ∧ B.slots = A.slots + 0) := by
  obtain ⟨s1, s2, cd, N2, vs, kb, s3, s4, s5, s6, s7⟩ := S
  obtain ⟨r1, r2, cd', N2', vs', kb', r3, r4, r5, r6, r7⟩ := S'
  refine Back.mono (StrChars.Road.eqW hZ hw wi s1 s2 s3 s4 s5 s6 s7 r1 r2 r3 r4 r5 r6 r7 SC hz hfr hlo) (fun P a hp => hp) (fun P a v B hp hq => ?_)
  obtain ⟨L, ⟨q1, q2, q3⟩, r⟩ := hq
  refine ⟨L, ⟨?_, q2, q3.symm⟩, r⟩
  rcases q1 with ⟨q, e⟩ | ⟨q, e⟩
  · rw [q, if_pos e]
  · rw [q, if_neg e]
theorem mask255 (x : Int32) : ∃ k : Fin 256, x &&& (255 : Int32) = Int32.ofNat k.val := by
  have h : (x &&& 255).toBitVec.toNat < 256 := by
    simp only [Int32.toBitVec_and, BitVec.toNat_and]
    exact Nat.lt_succ_of_le Nat.and_le_right
  refine ⟨⟨_, h⟩, ?_⟩
  apply Int32.toBitVec_inj.mp
  show _ = BitVec.ofNat 32 _
  rw [BitVec.ofNat_toNat]; simp
theorem c8 (x : Int32) : nar .char ((x &&& (255 : Int32)).toUInt32.toUInt16.toUInt32.toInt32) = x &&& (255 : Int32) := by
  have t : ∀ k : Fin 256, nar .char ((Int32.ofNat k.val).toUInt32.toUInt16.toUInt32.toInt32) = Int32.ofNat k.val := by decide +kernel
  obtain ⟨k, e⟩ := mask255 x
  rw [e]; exact t k
theorem lo255 (x : Int32) : ¬ (x &&& (255 : Int32)) < 0 ∧ ¬ (255 : Int32) < (x &&& (255 : Int32)) := by
  have t : ∀ k : Fin 256, ¬ (Int32.ofNat k.val) < 0 ∧ ¬ (255 : Int32) < (Int32.ofNat k.val) := by decide +kernel
  obtain ⟨k, e⟩ := mask255 x
  rw [e]; exact t k
theorem own_new {p : Program} {l : Launch} {e : Env} {R : Room} {s : State} {args : Array Value} {below : List Frame} {W : Nat} {Z : State} {a0 : Array Value} {h : Heap} {kI : Nat} {x b : Addr} {kC : ClassId} {d v0 c0 : Value} {z N : Int32} {n0 : Nat} (cs : List Int32) (n : Nat) (hZ : Z.Warmed39 s.vm) (hw : ∀ d ∈ StrChars.Road.words, d.before a0 Z = true) (wi : (Jvm.Cond.instantiable "java/lang/String" kI).before a0 Z = true)
    (hx0 : n0 ≤ x) (hh0 : n0 ≤ h.size) (E : Exa Z h x "java/lang/String") (V : Fld Z h x "java/lang/String" "value" "[B" v0) (C : Fld Z h x "java/lang/String" "coder" "B" c0) (K : Arv Z h b kC .char N (cs.map Value.int) d) (S : Sta Z h "java/lang/String" "COMPACT_STRINGS" "Z" (.int z)) (hz : ¬ z = 0)
    (hn : cs.length = n) (hN : N = Int32.ofNat n) (l0 : 0 < n) (l2 : n ≤ 4000) (hp : ∀ c ∈ cs, ¬ c < 0 ∧ ¬ (255 : Int32) < c) (hfr : 4 ≤ R.frames) (hlo : W + 65 ≤ R.locals) :
    Back l R p e below s args (⟨"java/lang/String", "<init>", "([C)V"⟩ : MethodName) 3 W (fun P a => a = #[.ref x, .ref b] ∧ P.U.heap = h ∧ P.cells + 1 ≤ R.cells ∧ P.slots + n ≤ R.slots)
      (fun P _ v B => ∃ L, (v = none ∧ Fr n0 L ∧ Keep h B.U.heap [x] ∧ ∃ t : Addr, @Eq Nat t h.size ∧ Str Z B.U.heap x t cs) ∧ B.locs = P.locs ++ L ∧ B.cells = P.cells + 1 ∧ B.slots = P.slots + n) := by
  subst hn hN
  refine Back.mono (StrChars.Road.backArv hZ hw wi E V C K S hz (Int32.toNatClampNeg_ofNat_of_lt (by omega)) l0 (by omega) (fun c hc => (hp c hc).2) hfr hlo) (fun P a hp => hp) (fun P a v B hp' hq => ?_)
  obtain ⟨L, ⟨q1, q2, q3, q4, q5, q6, q7, ⟨kb, v1, v2⟩, q9⟩, hl, hc, hs⟩ := hq
  exact ⟨L, ⟨q1, fun y hy => by rw [q2 y hy]; exact hx0, q3, h.size, rfl, q5, q6, 0, _, _, kb, q7, v2, Or.inl ⟨rfl, rfl, rfl, fun c hc => (hp c hc).2⟩, fun c hc => ⟨(hp c hc).1, fun w => (hp c hc).2 (Int32.lt_trans (by decide) w)⟩, l2⟩, hl, hc, hs⟩
section StartF
variable {args : Array Value} {s : State} {a b t : Term} {e x : Addr} {k z : Int32}
theorem eq_ref (h : (Cond.eq a b).value args s none s [] = some true) (hb : b.eval args s none [] s = some (.ref e)) : a.eval args s none [] s = some (.ref e) := by
  obtain ⟨u, v, hu, hv, h1, h2⟩ := cmp_v (Or.inl h)
  cases hb.symm.trans hv
  obtain ⟨-, r⟩ : Kin (.ref e) u := h2
  rw [eq_R hu hb r rfl] at h
  rw [hu]
  exact congrArg some (of_decide_eq_true (Option.some.inj h))
theorem eq_int (h : (Cond.eq a (.int k)).value args s none s [] = some true) : a.eval args s none [] s = some (.int k) := by
  obtain ⟨u, v, hu, hv, h1, h2⟩ := cmp_v (Or.inl h)
  cases (Term.int_eval k (args := args) (first := s) (o := none) (idx := []) (s := s)).symm.trans hv
  obtain ⟨y, rfl⟩ : Kin (.int k) u := h2
  rw [Cond.eq_ints hu (Term.int_eval k)] at h
  rw [hu, of_decide_eq_true (Option.some.inj h)]
theorem len_start {cl : Cell} {ty : FieldType} (ev : t.eval args s none [] s = some (.ref x)) (A : Arr s s.heap x cl ty) (h : (Cond.eq (.length t) (.int z)).value args s none s [] = some true) : cl.slots.size < 2 ^ 31 ∧ cl.slots.size.toInt32 = z := by
  have h' := eq_int h
  have hA := A.fin (Vm.Alike.refl _)
  simp only [Term.eval, ev, Option.bind_eq_bind, Option.bind_some] at h'
  rw [hA] at h'
  simp at h'
  by_cases q : cl.slots.size < 2 ^ 31
  · refine ⟨q, ?_⟩
    simpa [q] using h'
  · simp [q] at h'
theorem elem_start {cl : Cell} {ty : FieldType} {j : Int32} {v : Value} (ev : t.eval args s none [] s = some (.ref x)) (A : Arr s s.heap x cl ty) (h : (Term.elem t (.int j)).eval args s none [] s = some v) : cl.slots[j.toNatClampNeg]? = some v :=
  (elem_in h ev (Term.int_eval j) A.1).2
theorem str_start (hf : Fit s) {c0 c1 c2 : Int32} (ev : t.eval args s none [] s = some (.ref x)) (he : (Cond.exactly t "java/lang/String").value args s none s [] = some true) (hc : (Cond.eq (.field t "java/lang/String" "coder" "B") (.int 0)).value args s none s [] = some true)
    (ha : (Cond.arrayOf (.field t "java/lang/String" "value" "[B") .byte).value args s none s [] = some true) (hl : (Cond.eq (.length (.field t "java/lang/String" "value" "[B")) (.int 3)).value args s none s [] = some true)
    (h0 : (Cond.eq (.elem (.field t "java/lang/String" "value" "[B") (.int 0)) (.int c0)).value args s none s [] = some true) (h1 : (Cond.eq (.elem (.field t "java/lang/String" "value" "[B") (.int 1)) (.int c1)).value args s none s [] = some true) (h2 : (Cond.eq (.elem (.field t "java/lang/String" "value" "[B") (.int 2)) (.int c2)).value args s none s [] = some true)
    (hb : ∀ c ∈ [c0, c1, c2], ¬ c < 0 ∧ ¬ (127 : Int32) < c) (hv : [c0, c1, c2].map Value.int = [c0, c1, c2].map fun c => Value.int (StrChars.lo8 c)) : ∃ tt : Addr, Str s s.heap x tt [c0, c1, c2] := by
  obtain ⟨y, ey⟩ := arr_v ha
  obtain ⟨cl, A⟩ := Arr.start ey ha
  obtain ⟨q, ez⟩ := len_start ey A hl
  have H : HasL cl 0 [.int c0, .int c1, .int c2] := ⟨elem_start ey A (eq_int h0), elem_start ey A (eq_int h1), elem_start ey A (eq_int h2), trivial⟩
  have V : Arv s s.heap y cl.cls .byte 3 [.int c0, .int c1, .int c2] (.int 0) := Arv.start hf A q ez (by decide) rfl H
  have FV : Fld s s.heap x "java/lang/String" "value" "[B" (.ref y) := Fld.start ((fld_at ev).symm.trans ey)
  have FC : Fld s s.heap x "java/lang/String" "coder" "B" (.int 0) := Fld.start ((fld_at ev).symm.trans (eq_int hc))
  exact ⟨y, Str.mk0 (Exa.start ev he) FV FC V rfl hv (fun c hc => ⟨(hb c hc).1, fun w => (hb c hc).2 (Int32.lt_trans (by decide) w)⟩) (by simp)⟩
end StartF
theorem own_wnew : ∀ d ∈ StrChars.Road.words, d ∈ tables_1 := by decide +kernel
theorem own_weq : ∀ d ∈ StrChars.Road.wordsEq, d ∈ tables_1 := by decide +kernel
theorem own_wstr : ∀ d ∈ Bundle.stringAtoms, d ∈ tables_1 := by decide +kernel
/-- what the sheet says of the statics -/
def Sts (Z : State) (zc : Int32) (rv : Value) : Prop := Sta Z Z.heap "java/lang/String" "COMPACT_STRINGS" "Z" (.int zc) ∧ (¬ (zc = (0 : Int32))) ∧ Sta Z Z.heap "jdk/internal/util/Preconditions" "SIOOBE_FORMATTER" "Ljava/util/function/BiFunction;" rv ∧ rv.isRef = true
def r8 (c : Int32) : Prop := ¬ c < 0 ∧ ¬ (255 : Int32) < c
theorem nar8 {c : Int32} (h : r8 c) : nar .char c = c := by
  have e := StrChars.narrow_ch (c := c) h.1 (fun w => h.2 (Int32.lt_trans (by decide) w))
  exact Value.int.inj e
theorem lo_32 : StrChars.lo8 32 = 32 := by decide
theorem and3 (x : Int32) : (x &&& (3 : Int32)) = 0 ∨ (x &&& (3 : Int32)) = 1 ∨ (x &&& (3 : Int32)) = 2 ∨ (x &&& (3 : Int32)) = 3 := by
  have h : (x &&& 3).toBitVec.toNat < 4 := by
    simp only [Int32.toBitVec_and, BitVec.toNat_and]
    exact Nat.lt_succ_of_le Nat.and_le_right
  have t : ∀ k : Fin 4, Int32.ofNat k.val = 0 ∨ Int32.ofNat k.val = 1 ∨ Int32.ofNat k.val = 2 ∨ Int32.ofNat k.val = 3 := by decide
  have e : x &&& (3 : Int32) = Int32.ofNat (x &&& 3).toBitVec.toNat := by
    apply Int32.toBitVec_inj.mp
    show _ = BitVec.ofNat 32 _
    rw [BitVec.ofNat_toNat]; simp
  rw [e]; exact t ⟨_, h⟩
theorem Str.lat {Z : State} {h : Heap} {x t : Addr} {cs : List Int32} (S : Str Z h x t cs) (hl : ∀ c ∈ cs, ¬ (255 : Int32) < c) : Exa Z h x "java/lang/String" ∧ Fld Z h x "java/lang/String" "value" "[B" (.ref t) ∧ Fld Z h x "java/lang/String" "coder" "B" (.int 0) ∧ ∃ kb, Arv Z h t kb .byte (Int32.ofNat cs.length) (cs.map fun c => Value.int (StrChars.lo8 c)) (.int 0) := by
  obtain ⟨s1, s2, cd, N2, vs, kb, s3, s4, s5, s6, s7⟩ := S
  rcases s5 with ⟨rfl, rfl, rfl, -⟩ | ⟨-, -, -, c, hc, q⟩
  · exact ⟨s1, s2, s3, kb, s4⟩
  · exact absurd q (hl c hc)
/-- at x a StringBuilder of k bytes, its array of sixteen at t -/
def SB (Z : State) (h : Heap) (x t : Addr) (kb : ClassId) (k : Int32) (vs : List Value) : Prop := Exa Z h x "java/lang/StringBuilder" ∧ Fld Z h x "java/lang/AbstractStringBuilder" "value" "[B" (.ref t) ∧ Fld Z h x "java/lang/AbstractStringBuilder" "coder" "B" (.int (0 : Int32)) ∧ Fld Z h x "java/lang/AbstractStringBuilder" "count" "I" (.int k) ∧ Arv Z h t kb .byte (16 : Int32) vs (.int (0 : Int32))
/-- at x a StringBuilder of k bytes, its array of N at t -/
def SBN (Z : State) (h : Heap) (x t : Addr) (kb : ClassId) (N k : Int32) (vs : List Value) : Prop := Exa Z h x "java/lang/StringBuilder" ∧ Fld Z h x "java/lang/AbstractStringBuilder" "value" "[B" (.ref t) ∧ Fld Z h x "java/lang/AbstractStringBuilder" "coder" "B" (.int (0 : Int32)) ∧ Fld Z h x "java/lang/AbstractStringBuilder" "count" "I" (.int k) ∧ Arv Z h t kb .byte N vs (.int (0 : Int32))
/-- the type of an inventory, its version's last sign d -/
def inv (d : Int32) : List Int32 := [104, 116, 116, 112, 115, 58, 47, 47, 111, 99, 102, 108, 46, 105, 111, 47, 49, 46, d, 47, 115, 112, 101, 99, 47, 35, 105, 110, 118, 101, 110, 116, 111, 114, 121]
def ofV (e0 e1 : Addr) (cs : List Int32) : Value := if inv 49 = cs then .ref e1 else if inv 48 = cs then .ref e0 else .null
def og (b j : Int32) : Int32 := (inv b).getD j.toNatClampNeg 0
theorem inv_inj {a b : Int32} (h : inv a = inv b) : a = b := congrArg (fun l => l.getD 18 0) h
theorem inv_len (a : Int32) : (inv a).length = 35 := rfl
theorem of_49 (e0 e1 : Addr) : ofV e0 e1 (inv 49) = .ref e1 := if_pos rfl
theorem of_48 (e0 e1 : Addr) : ofV e0 e1 (inv 48) = .ref e0 := by
  unfold ofV; rw [if_neg (fun e => absurd (inv_inj e) (by decide)), if_pos rfl]
theorem of_other (e0 e1 : Addr) {c : Int32} (h1 : ¬ c = 48) (h2 : ¬ c = 49) : ofV e0 e1 (inv c) = .null := by
  unfold ofV; rw [if_neg (fun e => h2 (inv_inj e).symm), if_neg (fun e => h1 (inv_inj e).symm)]
theorem of_len (e0 e1 : Addr) {cs : List Int32} (h : cs.length ≠ 35) : ofV e0 e1 cs = .null := by
  unfold ofV; rw [if_neg (fun e => h (by rw [← e]; rfl)), if_neg (fun e => h (by rw [← e]; rfl))]
theorem ofV_ref (e0 e1 : Addr) (cs : List Int32) : (ofV e0 e1 cs).isRef = true := by unfold ofV; repeat' (first | rfl | split)
theorem inv_at (a b : Int32) {i : Nat} (h : i ≠ 18) : (inv a)[i]? = (inv b)[i]? := by
  rw [← List.getElem?_set_ne (l := inv a) (a := 0) (Ne.symm h), ← List.getElem?_set_ne (l := inv b) (a := 0) (Ne.symm h)]; rfl
theorem of_set (e0 e1 : Addr) {b c : Int32} {i : Nat} (h : i ≠ 18) (hi : i < 35) (hc : ¬ c = (inv b).getD i 0) : ofV e0 e1 ((inv b).set i c) = .null := by
  have t : ∀ d, inv d ≠ (inv b).set i c := fun d e => by
    have q : (inv d)[i]? = ((inv b).set i c)[i]? := by rw [e]
    rw [List.getElem?_set_self (by rw [inv_len]; exact hi), inv_at d b h] at q
    apply hc
    rw [List.getD_eq_getElem?_getD, q]; rfl
  unfold ofV; rw [if_neg (t _), if_neg (t _)]
theorem set_same {b : Int32} {i : Nat} (hi : i < 35) : (inv b).set i ((inv b).getD i 0) = inv b := by
  apply List.ext_getElem?
  intro j
  rw [List.getElem?_set]
  split
  · next q => subst q; rw [if_pos (by rw [inv_len]; exact hi), List.getD_eq_getElem?_getD, List.getElem?_eq_getElem (by rw [inv_len]; exact hi)]; rfl
  · rfl
theorem r8_all {P : Int32 → Prop} {l : List Int32} (h : ∀ c ∈ l, P c) {i : Nat} {x : Int32} (hx : P x) : ∀ c ∈ l.set i x, P c := fun c hc => by
  rcases List.mem_or_eq_of_mem_set hc with q | q
  · exact h c q
  · rw [q]; exact hx
theorem inv_r8 {b : Int32} (hb : r8 b) : ∀ c ∈ inv b, ¬ c < 0 ∧ ¬ (255 : Int32) < c := by
  have e : inv b = (inv 48).set 18 b := rfl
  rw [e]
  exact r8_all (P := fun c => ¬ c < 0 ∧ ¬ (255 : Int32) < c) (by decide) hb
theorem r8_i2c (x : Int32) : r8 ((x &&& (255 : Int32)).toUInt32.toUInt16.toUInt32.toInt32) := by
  show r8 (nar .char (x &&& 255))
  rw [nar8 (lo255 x)]; exact lo255 x
theorem i18 {p : Int32} (h : ¬ p < 0) (e : p.toNatClampNeg = 18) : p = 18 := by
  rw [Int32.lt_iff_toInt_lt] at h
  have e0 : (0 : Int32).toInt = 0 := rfl
  have e1 : (18 : Int32).toInt = 18 := rfl
  apply Int32.toInt_inj.mp
  simp only [Int32.toNatClampNeg] at e
  rw [e1]; omega
theorem i35 {p : Int32} (h : ¬ p < 0 ∧ p < 35) : p.toNatClampNeg < 35 := by
  obtain ⟨h, h'⟩ := h
  rw [Int32.lt_iff_toInt_lt] at h h'
  have e0 : (0 : Int32).toInt = 0 := rfl
  have e1 : (35 : Int32).toInt = 35 := rfl
  simp only [Int32.toNatClampNeg]; omega
theorem idx35 (y : Int32) : ¬ ((y &&& (2147483647 : Int32)) - (y &&& (2147483647 : Int32)) / (35 : Int32) * (35 : Int32)) < 0 ∧ ((y &&& (2147483647 : Int32)) - (y &&& (2147483647 : Int32)) / (35 : Int32) * (35 : Int32)) < 35 := by
  have hn : (y &&& 2147483647).toBitVec.toNat < 2147483648 := by
    simp only [Int32.toBitVec_and, BitVec.toNat_and]
    exact Nat.lt_succ_of_le Nat.and_le_right
  generalize y &&& (2147483647 : Int32) = x at *
  have h0 : 0 ≤ x.toInt ∧ x.toInt < 2147483648 := by
    have e : x.toInt = x.toBitVec.toInt := rfl
    rw [e, BitVec.toInt_eq_toNat_cond]; split <;> omega
  rw [Int32.lt_iff_toInt_lt, Int32.lt_iff_toInt_lt, Int32.toInt_sub, Int32.toInt_mul, Int32.toInt_div]
  have e0 : (0 : Int32).toInt = 0 := rfl
  have e1 : (35 : Int32).toInt = 35 := rfl
  rw [e0, e1]
  have t : x.toInt.tdiv 35 = x.toInt / 35 := Int.tdiv_eq_ediv_of_nonneg h0.1
  rw [t]
  generalize x.toInt = X at *
  have b1 : (X / 35).bmod (2 ^ 32) = X / 35 := by rw [Int.bmod_def]; split <;> omega
  rw [b1]
  have b2 : (X / 35 * 35).bmod (2 ^ 32) = X / 35 * 35 := by rw [Int.bmod_def]; split <;> omega
  rw [b2]
  have b3 : (X - X / 35 * 35).bmod (2 ^ 32) = X - X / 35 * 35 := by rw [Int.bmod_def]; split <;> omega
  rw [b3]
  omega
theorem vget (cs : List Int32) (p : Int32) : (cs.map Value.int).getD p.toNatClampNeg (.int (0 : Int32)) = .int (cs.getD p.toNatClampNeg 0) := by
  simp only [List.getD_eq_getElem?_getD, List.getElem?_map]; cases cs[p.toNatClampNeg]? <;> rfl
theorem nb8 (x : Int32) : nar .byte (x.toInt8.toInt32) = StrChars.lo8 x := by
  show x.toInt8.toInt32.toInt8.toInt32 = x.toInt8.toInt32
  rw [Int8.toInt8_toInt32]
/-- one constant of the enum: its static, its object, its number's String -/
def Enm (Z : State) (nme : String) (e s t : Addr) (cs : List Int32) : Prop := Sta Z Z.heap "com/example/affixity/affixity/ocfl/OcflVersion" nme "Lcom/example/affixity/affixity/ocfl/OcflVersion;" (.ref e) ∧ Exa Z Z.heap e "com/example/affixity/affixity/ocfl/OcflVersion" ∧ Fld Z Z.heap e "com/example/affixity/affixity/ocfl/OcflVersion" "number" "Ljava/lang/String;" (.ref s) ∧ Str Z Z.heap s t cs
def Enums (Z : State) (va : Addr) (kv : ClassId) (e0 e1 s0 s1 t0 t1 : Addr) : Prop := Enm Z "V1_0" e0 s0 t0 [49, 46, 48] ∧ Enm Z "V1_1" e1 s1 t1 [49, 46, 49] ∧
  Sta Z Z.heap "com/example/affixity/affixity/ocfl/OcflVersion" "$VALUES" "[Lcom/example/affixity/affixity/ocfl/OcflVersion;" (.ref va) ∧ Exa Z Z.heap va "[Lcom/example/affixity/affixity/ocfl/OcflVersion;" ∧
  Arv Z Z.heap va kv (.object "com/example/affixity/affixity/ocfl/OcflVersion") 2 [.ref e0, .ref e1] .null
theorem pn_com_example_affixity_affixity_ocfl_OcflVersion : plainName "com/example/affixity/affixity/ocfl/OcflVersion" = true := by first | (simp [plainName, overriddenIn]; done) | decide +kernel
theorem d8_0 : decode prog_15_method_1_code 0 = .ok (.getstatic 10, 3) := by decide +kernel
theorem d8_3 : decode prog_15_method_1_code 3 = .ok (.invokevirtual 14, 3) := by decide +kernel
theorem d8_6 : decode prog_15_method_1_code 6 = .ok (.checkcast 15, 3) := by decide +kernel
theorem d8_9 : decode prog_15_method_1_code 9 = .ok (.areturn, 1) := by decide +kernel
set_option maxRecDepth 65536 in
set_option maxHeartbeats 40000000 in
theorem n_vals (l : Launch) (Z : State) (a0 : Array Value) (hw : ∀ d ∈ tables_1, d.before a0 Z = true) (hEL : EW Z a0 [])  (va : Addr) (kv : ClassId) (e0 e1 s0 s1 t0 t1 : Addr) (zc : Int32) (rv : Value) (h0 : Heap) (n0 : Nat) (PE : Enums Z va kv e0 e1 s0 s1 t0 t1) (hn : @LE.le Nat _ n0 h0.size) (PX : Sts Z zc rv) (PO : Old Z n0 h0) :
    Met false Z [] l (⟨"com/example/affixity/affixity/ocfl/OcflVersion", "values", "()[Lcom/example/affixity/affixity/ocfl/OcflVersion;"⟩ : MethodName) prog_15_method_1_code 0 (some (.array (.object "com/example/affixity/affixity/ocfl/OcflVersion"))) ({ frames := 1, cells := 1, slots := 2, locals := 14 } : Room) #[] h0 [] n0 (fun v h => ∃ x : Addr, v = some (.ref x) ∧ Keep h0 h [] ∧ @LE.le Nat _ h0.size x ∧ Arv Z h x kv (.object "com/example/affixity/affixity/ocfl/OcflVersion") 2 [.ref e0, .ref e1] .null) := by
  refine Met.of (a0 := a0) (Ls := #[]) (fun z => rfl) (plainFor_of_name pn_com_example_affixity_affixity_ocfl_OcflVersion) hEL (fun m => by first | (simp [entryFrame, mkF, argsToLocals, Value.category]; done) | rfl) ?_
  intro p e s m below meth c B hSf
  obtain ⟨SC, hzc, SF, rf⟩ := id PX
  obtain ⟨⟨S0, G0, F0, X0⟩, ⟨S1, G1, F1, X1⟩, SV, EV, AV⟩ := id PE
  refine g_getS B (hw _ (List.mem_of_getElem? (i := 38) rfl)) (SV.ext PO.2) d8_0 (q := 3) rfl ?_
  refine g_clone (cap := 2) (W := 0) B (hw _ (List.mem_of_getElem? (i := 40) rfl)) (hw _ (List.mem_of_getElem? (i := 41) rfl)) (hw _ (List.mem_of_getElem? (i := 45) rfl)) (hw _ (List.mem_of_getElem? (i := 43) rfl)) (hw _ (List.mem_of_getElem? (i := 44) rfl)) (hw _ (List.mem_of_getElem? (i := 46) rfl)) (AV.ext PO.2) (EV.ext PO.2) rfl d8_3 (by decide) (Nat.le_of_eq rfl) (by decide) (by decide) (by decide) (by decide) (q := 6) rfl ?_
  intro h21 b21 g21 E21 S21 V21 A21
  have z21 := E21.1; have y21 : @LT.lt Nat _ b21 h21.size := V21.lt
  refine g_cast B (hw _ (List.mem_of_getElem? (i := 50) rfl)) (Ins.self A21) d8_6 (q := 9) rfl ?_
  exact g_retA B rfl rfl d8_9 (by decide) (by decide) ⟨_, rfl, ((Keep.refl h0 []).ext E21), (by omega), V21⟩
theorem pn_java_lang_String : plainName "java/lang/String" = true := by first | (simp [plainName, overriddenIn]; done) | decide +kernel
theorem d35_0 : decode jdk_42_method_66_code 0 = .ok (.aload_n 0, 1) := by decide +kernel
theorem d35_1 : decode jdk_42_method_66_code 1 = .ok (.aload_n 1, 1) := by decide +kernel
theorem d35_2 : decode jdk_42_method_66_code 2 = .ok (.if_acmp .ne 5, 3) := by decide +kernel
theorem d35_7 : decode jdk_42_method_66_code 7 = .ok (.aload_n 1, 1) := by decide +kernel
theorem d35_8 : decode jdk_42_method_66_code 8 = .ok (.instanceof 10, 3) := by decide +kernel
theorem d35_11 : decode jdk_42_method_66_code 11 = .ok (.ifCond .eq 43, 3) := by decide +kernel
theorem d35_54 : decode jdk_42_method_66_code 54 = .ok (.iconst 0, 1) := by decide +kernel
theorem d35_55 : decode jdk_42_method_66_code 55 = .ok (.ireturn, 1) := by decide +kernel
set_option maxRecDepth 65536 in
set_option maxHeartbeats 40000000 in
theorem n_eq0 (l : Launch) (Z : State) (a0 : Array Value) (hw : ∀ d ∈ tables_1, d.before a0 Z = true) (hEL : EW Z a0 []) (a1 : Addr)  (h0 : Heap) (n0 : Nat)  :
    Met false Z [] l (⟨"java/lang/String", "equals", "(Ljava/lang/Object;)Z"⟩ : MethodName) jdk_42_method_66_code 3 (some .boolean) ({ frames := 0, cells := 0, slots := 0, locals := 0 } : Room) #[(.ref a1), .null] h0 [] n0 (fun v h => v = some (.int 0) ∧ h0 = h) := by
  refine Met.of (a0 := a0) (Ls := #[.val (.ref a1), .val .null, .unset]) (fun z => rfl) (plainFor_of_name pn_java_lang_String) hEL (fun m => by first | (simp [entryFrame, mkF, argsToLocals, Value.category]; done) | rfl) ?_
  intro p e s m below meth c B hSf
  refine gs (mkF m 1 _ [(.ref a1)]) (fun T A t k => XS.aloadN A B.x rfl (B.d d35_0) rfl rfl k) ?_
  refine gs (mkF m 2 _ [.null, (.ref a1)]) (fun T A t k => XS.aloadN A B.x rfl (B.d d35_1) rfl rfl k) ?_
  refine g_acmp B rfl rfl d35_2 (same := false) (decide_eq_false nofun) (by decide) (q := 7) (by decide) ?_
  refine gs (mkF m 8 _ [.null]) (fun T A t k => XS.aloadN A B.x rfl (B.d d35_7) rfl rfl k) ?_
  refine g_instNull B d35_8 (q := 11) rfl ?_
  refine gs (mkF m 54 _ []) (fun T A t k => XS.ifYes A B.x rfl (pc0 := 11) (pc' := 54) rfl (B.d d35_11) rfl ((if0 _ _).trans (teq (by decide : (0 : Int32) = (0 : Int32))).1) (by decide) (by decide) k) ?_
  refine gs (mkF m 55 _ [(.int (0 : Int32))]) (fun T A t k => XS.iconst A B.x rfl (B.d d35_54) k) ?_
  exact g_retN (t := .boolean) B (by simp) d35_55 (by decide) (by decide) ⟨rfl, rfl⟩
theorem d9_0 : decode prog_15_method_7_code 0 = .ok (.new 33, 3) := by decide +kernel
theorem d9_3 : decode prog_15_method_7_code 3 = .ok (.dup, 1) := by decide +kernel
theorem pn_java_lang_StringBuilder : plainName "java/lang/StringBuilder" = true := by first | (simp [plainName, overriddenIn]; done) | decide +kernel
theorem d10_0 : decode jdk_67_method_1_code 0 = .ok (.aload_n 0, 1) := by decide +kernel
theorem d10_1 : decode jdk_67_method_1_code 1 = .ok (.bipush 16, 2) := by decide +kernel
theorem pn_java_lang_AbstractStringBuilder : plainName "java/lang/AbstractStringBuilder" = true := by first | (simp [plainName, overriddenIn]; done) | decide +kernel
theorem d11_0 : decode jdk_68_method_2_code 0 = .ok (.aload_n 0, 1) := by decide +kernel
theorem d11_1 : decode jdk_68_method_2_code 1 = .ok (.invokespecial 3, 3) := by decide +kernel
theorem d11_4 : decode jdk_68_method_2_code 4 = .ok (.getstatic 18, 3) := by decide +kernel
theorem d11_7 : decode jdk_68_method_2_code 7 = .ok (.ifCond .eq 18, 3) := by decide +kernel
theorem d11_10 : decode jdk_68_method_2_code 10 = .ok (.aload_n 0, 1) := by decide +kernel
theorem d11_11 : decode jdk_68_method_2_code 11 = .ok (.iload_n 1, 1) := by decide +kernel
theorem d11_12 : decode jdk_68_method_2_code 12 = .ok (.newarray .byte, 2) := by decide +kernel
theorem d11_14 : decode jdk_68_method_2_code 14 = .ok (.putfield 15, 3) := by decide +kernel
theorem d11_17 : decode jdk_68_method_2_code 17 = .ok (.aload_n 0, 1) := by decide +kernel
theorem d11_18 : decode jdk_68_method_2_code 18 = .ok (.iconst 0, 1) := by decide +kernel
theorem d11_19 : decode jdk_68_method_2_code 19 = .ok (.putfield 22, 3) := by decide +kernel
theorem d11_22 : decode jdk_68_method_2_code 22 = .ok (.goto 16, 3) := by decide +kernel
theorem d11_38 : decode jdk_68_method_2_code 38 = .ok (.return_, 1) := by decide +kernel
set_option maxRecDepth 65536 in
set_option maxHeartbeats 40000000 in
theorem n_bini_a (l : Launch) (Z : State) (a0 : Array Value) (hw : ∀ d ∈ tables_1, d.before a0 Z = true) (hEL : EW Z a0 []) (a1 : Addr) (zc : Int32) (rv : Value) (h0 : Heap) (n0 : Nat) (PE : Exa Z h0 a1 "java/lang/StringBuilder") (PV : Fld Z h0 a1 "java/lang/AbstractStringBuilder" "value" "[B" .null) (PC : Fld Z h0 a1 "java/lang/AbstractStringBuilder" "coder" "B" (.int (0 : Int32))) (PN : Fld Z h0 a1 "java/lang/AbstractStringBuilder" "count" "I" (.int (0 : Int32))) (hn : @LE.le Nat _ n0 h0.size) (hd : @LE.le Nat _ n0 a1) (PX : Sts Z zc rv) (PO : Old Z n0 h0) :
    Met false Z [] l (⟨"java/lang/AbstractStringBuilder", "<init>", "(I)V"⟩ : MethodName) jdk_68_method_2_code 2 none ({ frames := 1, cells := 1, slots := 16, locals := 12 } : Room) #[(.ref a1), (.int (16 : Int32))] h0 [] n0 (fun v h => v = none ∧ Keep h0 h [a1] ∧ ∃ (t : Addr) (kb : ClassId), @LE.le Nat _ h0.size t ∧ SBN Z h a1 t kb (16 : Int32) (0 : Int32) [(.int (0 : Int32)), (.int (0 : Int32)), (.int (0 : Int32)), (.int (0 : Int32)), (.int (0 : Int32)), (.int (0 : Int32)), (.int (0 : Int32)), (.int (0 : Int32)), (.int (0 : Int32)), (.int (0 : Int32)), (.int (0 : Int32)), (.int (0 : Int32)), (.int (0 : Int32)), (.int (0 : Int32)), (.int (0 : Int32)), (.int (0 : Int32))]) := by
  refine Met.of (a0 := a0) (Ls := #[.val (.ref a1), .val (.int (16 : Int32))]) (fun z => rfl) (plainFor_of_name pn_java_lang_AbstractStringBuilder) hEL (fun m => by first | (simp [entryFrame, mkF, argsToLocals, Value.category]; done) | rfl) ?_
  intro p e s m below meth c B hSf
  obtain ⟨SC, hzc, SF, rf⟩ := id PX
  have hlt1 : @LT.lt Nat _ a1 h0.size := PE.lt
  refine gs (mkF m 1 _ [(.ref a1)]) (fun T A t k => XS.aloadN A B.x rfl (B.d d11_0) rfl rfl k) ?_
  refine g_initO B (hw _ (List.mem_of_getElem? (i := 69) rfl)) (hw _ (List.mem_of_getElem? (i := 13) rfl)) (hw _ (List.mem_of_getElem? (i := 14) rfl)) rfl d11_1 (by decide) (W := 0) (Nat.le_of_eq rfl) (by decide) (q := 4) rfl ?_
  refine g_getS B (hw _ (List.mem_of_getElem? (i := 70) rfl)) (SC.ext PO.2) d11_4 (q := 7) rfl ?_
  refine gs (mkF m 10 _ []) (fun T A t k => XS.ifNo A B.x rfl (B.d d11_7) rfl ((if0 _ _).trans (feq (hzc : ¬ (zc = (0 : Int32)))).1) k) ?_
  refine gs (mkF m 11 _ [(.ref a1)]) (fun T A t k => XS.aloadN A B.x rfl (B.d d11_10) rfl rfl k) ?_
  refine gs (mkF m 12 _ [(.int (16 : Int32)), (.ref a1)]) (fun T A t k => XS.iloadN A B.x rfl (B.d d11_11) rfl k) ?_
  refine g_newP B (hw _ (List.mem_of_getElem? (i := 20) rfl)) d11_12 (by decide) (cap := 16) (by decide) (by decide) (by decide) (by decide) (q := 14) rfl ?_
  intro h21 b21 k21 g21 E21 S21 A21
  have z21 := E21.1; have y21 : @LT.lt Nat _ b21 h21.size := A21.lt
  have V21 : Arv Z h21 b21 k21 .byte (16 : Int32) [(.int (0 : Int32)), (.int (0 : Int32)), (.int (0 : Int32)), (.int (0 : Int32)), (.int (0 : Int32)), (.int (0 : Int32)), (.int (0 : Int32)), (.int (0 : Int32)), (.int (0 : Int32)), (.int (0 : Int32)), (.int (0 : Int32)), (.int (0 : Int32)), (.int (0 : Int32)), (.int (0 : Int32)), (.int (0 : Int32)), (.int (0 : Int32))] (.int (0 : Int32)) := A21
  refine g_putF B (hw _ (List.mem_of_getElem? (i := 71) rfl)) Via.refl (PV.ext E21) (PE.ext E21) (Or.inl (hw _ (List.mem_of_getElem? (i := 72) rfl))) (hw _ (List.mem_of_getElem? (i := 58) rfl)) (ty := (.array .byte)) (by decide) rfl rfl d11_14 nos (by omega) (q := 17) rfl ?_
  intro h22 W22 F22
  have z22 := W22.size
  refine gs (mkF m 18 _ [(.ref a1)]) (fun T A t k => XS.aloadN A B.x rfl (B.d d11_17) rfl rfl k) ?_
  refine gs (mkF m 19 _ [(.int (0 : Int32)), (.ref a1)]) (fun T A t k => XS.iconst A B.x rfl (B.d d11_18) k) ?_
  refine g_putFN B (hw _ (List.mem_of_getElem? (i := 73) rfl)) Via.refl ((PC.ext E21).other W22 (Or.inr (slot_ne (Or.inl (hw _ (List.mem_of_getElem? (i := 74) rfl))) (Or.inl (hw _ (List.mem_of_getElem? (i := 72) rfl))) (by decide) (t := .byte) (t' := (.array .byte)) (by decide) (by decide)))) ((PE.ext E21).wr W22) (Or.inl (hw _ (List.mem_of_getElem? (i := 74) rfl))) (hw _ (List.mem_of_getElem? (i := 58) rfl)) (ty := .byte) (v' := (.int (0 : Int32))) (by decide) rfl rfl d11_19 nos (by omega) (q := 22) rfl ?_
  intro h23 W23 F23
  have z23 := W23.size
  refine gs (mkF m 38 _ []) (fun T A t k => XS.goto A B.x rfl (pc0 := 22) (pc' := 38) rfl (B.d d11_22) (by decide) (by decide) k) ?_
  exact g_ret0 B d11_38 (by decide) (by decide) ⟨rfl, ((((Keep.refl h0 [a1]).ext E21).wr W22 (Or.inl (by simp))).wr W23 (Or.inl (by simp))), _, _, (by omega), ⟨(((PE.ext E21).wr W22).wr W23), (F22.other W23 (Or.inr (slot_ne (Or.inl (hw _ (List.mem_of_getElem? (i := 72) rfl))) (Or.inl (hw _ (List.mem_of_getElem? (i := 74) rfl))) (by decide) (t := (.array .byte)) (t' := .byte) (by decide) (by decide)))), F23, (((PN.ext E21).other W22 (Or.inr (slot_ne (Or.inl (hw _ (List.mem_of_getElem? (i := 99) rfl))) (Or.inl (hw _ (List.mem_of_getElem? (i := 72) rfl))) (by decide) (t := .int) (t' := (.array .byte)) (by decide) (by decide)))).other W23 (Or.inr (slot_ne (Or.inl (hw _ (List.mem_of_getElem? (i := 99) rfl))) (Or.inl (hw _ (List.mem_of_getElem? (i := 74) rfl))) (by decide) (t := .int) (t' := .byte) (by decide) (by decide)))), ((V21.other W22 (by omega : @Ne Nat b21 a1)).other W23 (by omega : @Ne Nat b21 a1))⟩⟩
theorem pd_28I29V : parseMethodDescriptor "(I)V" = some ⟨[.int], none⟩ := by decide +kernel
theorem d10_3 : decode jdk_67_method_1_code 3 = .ok (.invokespecial 1, 3) := by decide +kernel
theorem d10_6 : decode jdk_67_method_1_code 6 = .ok (.return_, 1) := by decide +kernel
set_option maxRecDepth 65536 in
set_option maxHeartbeats 40000000 in
theorem n_bini_s (l : Launch) (Z : State) (a0 : Array Value) (hw : ∀ d ∈ tables_1, d.before a0 Z = true) (hEL : EW Z a0 []) (a1 : Addr) (zc : Int32) (rv : Value) (h0 : Heap) (n0 : Nat) (PE : Exa Z h0 a1 "java/lang/StringBuilder") (PV : Fld Z h0 a1 "java/lang/AbstractStringBuilder" "value" "[B" .null) (PC : Fld Z h0 a1 "java/lang/AbstractStringBuilder" "coder" "B" (.int (0 : Int32))) (PN : Fld Z h0 a1 "java/lang/AbstractStringBuilder" "count" "I" (.int (0 : Int32))) (hn : @LE.le Nat _ n0 h0.size) (hd : @LE.le Nat _ n0 a1) (PX : Sts Z zc rv) (PO : Old Z n0 h0) :
    Met false Z [] l (⟨"java/lang/StringBuilder", "<init>", "()V"⟩ : MethodName) jdk_67_method_1_code 1 none ({ frames := 2, cells := 1, slots := 16, locals := 25 } : Room) #[(.ref a1)] h0 [] n0 (fun v h => v = none ∧ Keep h0 h [a1] ∧ ∃ (t : Addr) (kb : ClassId), @LE.le Nat _ h0.size t ∧ SBN Z h a1 t kb (16 : Int32) (0 : Int32) [(.int (0 : Int32)), (.int (0 : Int32)), (.int (0 : Int32)), (.int (0 : Int32)), (.int (0 : Int32)), (.int (0 : Int32)), (.int (0 : Int32)), (.int (0 : Int32)), (.int (0 : Int32)), (.int (0 : Int32)), (.int (0 : Int32)), (.int (0 : Int32)), (.int (0 : Int32)), (.int (0 : Int32)), (.int (0 : Int32)), (.int (0 : Int32))]) := by
  refine Met.of (a0 := a0) (Ls := #[.val (.ref a1)]) (fun z => rfl) (plainFor_of_name pn_java_lang_StringBuilder) hEL (fun m => by first | (simp [entryFrame, mkF, argsToLocals, Value.category]; done) | rfl) ?_
  intro p e s m below meth c B hSf
  obtain ⟨SC, hzc, SF, rf⟩ := id PX
  have hlt1 : @LT.lt Nat _ a1 h0.size := PE.lt
  refine gs (mkF m 1 _ [(.ref a1)]) (fun T A t k => XS.aloadN A B.x rfl (B.d d10_0) rfl rfl k) ?_
  refine gs (mkF m 3 _ [(.int (16 : Int32)), (.ref a1)]) (fun T A t k => XS.bipush A B.x rfl (B.d d10_1) k) ?_
  refine g_metN (c_init B rfl (hw _ (List.mem_of_getElem? (i := 63) rfl)) (hw _ (List.mem_of_getElem? (i := 64) rfl)) (hw _ (List.mem_of_getElem? (i := 68) rfl)) (by decide) rfl (lenOf pd_28I29V rfl) rfl (Nat.le_of_eq rfl) d10_3 rfl (argsL := [(.int (16 : Int32))]) (rest := []) (W := 0) (q := 6)) (n_bini_a l Z a0 hw hEL a1 zc rv h0 n0 PE PV PC PN (by omega) (by omega) PX PO) (hw _ (List.mem_of_getElem? (i := 68) rfl)) (hw _ (List.mem_of_getElem? (i := 67) rfl)) (by decide) (by decide) (by decide) (by decide) ?_
  intro v21 h21 hz21 hQ21
  obtain ⟨rfl, K9, t9, k9, g9, B9⟩ := hQ21
  exact g_ret0 B d10_6 (by decide) (by decide) ⟨rfl, K9, _, _, g9, B9⟩
theorem pd_2829V : parseMethodDescriptor "()V" = some ⟨[], none⟩ := by decide +kernel
theorem d9_4 : decode prog_15_method_7_code 4 = .ok (.invokespecial 35, 3) := by decide +kernel
theorem d9_7 : decode prog_15_method_7_code 7 = .ok (.ldc 50, 2) := by decide +kernel
theorem d12_0 : decode jdk_67_method_7_code 0 = .ok (.aload_n 0, 1) := by decide +kernel
theorem d12_1 : decode jdk_67_method_7_code 1 = .ok (.aload_n 1, 1) := by decide +kernel
theorem d13_0 : decode jdk_68_method_22_code 0 = .ok (.aload_n 1, 1) := by decide +kernel
theorem d13_1 : decode jdk_68_method_22_code 1 = .ok (.ifnonnull 8, 3) := by decide +kernel
theorem d13_9 : decode jdk_68_method_22_code 9 = .ok (.aload_n 1, 1) := by decide +kernel
theorem d14_0 : decode jdk_42_method_54_code 0 = .ok (.aload_n 0, 1) := by decide +kernel
theorem d14_1 : decode jdk_42_method_54_code 1 = .ok (.getfield 9, 3) := by decide +kernel
theorem d14_4 : decode jdk_42_method_54_code 4 = .ok (.arraylength, 1) := by decide +kernel
theorem d14_5 : decode jdk_42_method_54_code 5 = .ok (.aload_n 0, 1) := by decide +kernel
theorem d15_0 : decode jdk_42_method_152_code 0 = .ok (.getstatic 38, 3) := by decide +kernel
theorem d15_3 : decode jdk_42_method_152_code 3 = .ok (.ifCond .eq 10, 3) := by decide +kernel
theorem d15_6 : decode jdk_42_method_152_code 6 = .ok (.aload_n 0, 1) := by decide +kernel
theorem d15_7 : decode jdk_42_method_152_code 7 = .ok (.getfield 15, 3) := by decide +kernel
theorem d15_10 : decode jdk_42_method_152_code 10 = .ok (.goto 4, 3) := by decide +kernel
theorem d15_14 : decode jdk_42_method_152_code 14 = .ok (.ireturn, 1) := by decide +kernel
set_option maxRecDepth 65536 in
set_option maxHeartbeats 40000000 in
theorem n_coder_0 (l : Launch) (Z : State) (a0 : Array Value) (hw : ∀ d ∈ tables_1, d.before a0 Z = true) (hEL : EW Z a0 []) (a1 : Addr) (zc : Int32) (rv : Value) (h0 : Heap) (n0 : Nat) (PE : Exa Z h0 a1 "java/lang/String") (PC : Fld Z h0 a1 "java/lang/String" "coder" "B" (.int (0 : Int32))) (PX : Sts Z zc rv) (PO : Old Z n0 h0) :
    Met false Z [] l (⟨"java/lang/String", "coder", "()B"⟩ : MethodName) jdk_42_method_152_code 1 (some .byte) ({ frames := 0, cells := 0, slots := 0, locals := 0 } : Room) #[(.ref a1)] h0 [] n0 (fun v h => v = some (.int (0 : Int32)) ∧ h0 = h) := by
  refine Met.of (a0 := a0) (Ls := #[.val (.ref a1)]) (fun z => rfl) (plainFor_of_name pn_java_lang_String) hEL (fun m => by first | (simp [entryFrame, mkF, argsToLocals, Value.category]; done) | rfl) ?_
  intro p e s m below meth c B hSf
  obtain ⟨SC, hzc, SF, rf⟩ := id PX
  refine g_getS B (hw _ (List.mem_of_getElem? (i := 15) rfl)) (SC.ext PO.2) d15_0 (q := 3) rfl ?_
  refine gs (mkF m 6 _ []) (fun T A t k => XS.ifNo A B.x rfl (B.d d15_3) rfl ((if0 _ _).trans (feq (hzc : ¬ (zc = (0 : Int32)))).1) k) ?_
  refine gs (mkF m 7 _ [(.ref a1)]) (fun T A t k => XS.aloadN A B.x rfl (B.d d15_6) rfl rfl k) ?_
  refine g_getF B (hw _ (List.mem_of_getElem? (i := 27) rfl)) Via.refl PC d15_7 (q := 10) rfl ?_
  refine gs (mkF m 14 _ [(.int (0 : Int32))]) (fun T A t k => XS.goto A B.x rfl (pc0 := 10) (pc' := 14) rfl (B.d d15_10) (by decide) (by decide) k) ?_
  exact g_retN (t := .byte) B (by simp) d15_14 (by decide) (by decide) ⟨rfl, rfl⟩
theorem pd_2829B : parseMethodDescriptor "()B" = some ⟨[], some .byte⟩ := by decide +kernel
theorem d14_6 : decode jdk_42_method_54_code 6 = .ok (.invokevirtual 335, 3) := by decide +kernel
theorem d14_9 : decode jdk_42_method_54_code 9 = .ok (.ishr, 1) := by decide +kernel
theorem d14_10 : decode jdk_42_method_54_code 10 = .ok (.ireturn, 1) := by decide +kernel
set_option maxRecDepth 65536 in
set_option maxHeartbeats 40000000 in
theorem n_slen_16 (l : Launch) (Z : State) (a0 : Array Value) (hw : ∀ d ∈ tables_1, d.before a0 Z = true) (hEL : EW Z a0 []) (a1 : Addr) (zc : Int32) (rv : Value) (t2 : Addr) (k2 : ClassId) (u0 u1 u2 u3 u4 u5 u6 u7 u8 u9 u10 u11 u12 u13 u14 u15 : Value) (h0 : Heap) (n0 : Nat) (PE2 : Exa Z h0 a1 "java/lang/String") (PC2 : Fld Z h0 a1 "java/lang/String" "coder" "B" (.int (0 : Int32))) (PV2 : Fld Z h0 a1 "java/lang/String" "value" "[B" (.ref t2)) (PA2 : Arv Z h0 t2 k2 .byte (16 : Int32) [u0, u1, u2, u3, u4, u5, u6, u7, u8, u9, u10, u11, u12, u13, u14, u15] (.int (0 : Int32))) (PX : Sts Z zc rv) (PO : Old Z n0 h0) :
    Met false Z [] l (⟨"java/lang/String", "length", "()I"⟩ : MethodName) jdk_42_method_54_code 1 (some .int) ({ frames := 1, cells := 0, slots := 0, locals := 13 } : Room) #[(.ref a1)] h0 [] n0 (fun v h => v = some (.int (16 : Int32)) ∧ h0 = h) := by
  refine Met.of (a0 := a0) (Ls := #[.val (.ref a1)]) (fun z => rfl) (plainFor_of_name pn_java_lang_String) hEL (fun m => by first | (simp [entryFrame, mkF, argsToLocals, Value.category]; done) | rfl) ?_
  intro p e s m below meth c B hSf
  obtain ⟨SC, hzc, SF, rf⟩ := id PX
  refine gs (mkF m 1 _ [(.ref a1)]) (fun T A t k => XS.aloadN A B.x rfl (B.d d14_0) rfl rfl k) ?_
  refine g_getF B (hw _ (List.mem_of_getElem? (i := 29) rfl)) Via.refl PV2 d14_1 (q := 4) rfl ?_
  refine g_len B PA2 d14_4 (q := 5) rfl ?_
  refine gs (mkF m 6 _ [(.ref a1), (.int (16 : Int32))]) (fun T A t k => XS.aloadN A B.x rfl (B.d d14_5) rfl rfl k) ?_
  refine g_metN (c_virt B PE2 (hw _ (List.mem_of_getElem? (i := 93) rfl)) (hw _ (List.mem_of_getElem? (i := 94) rfl)) (hw _ (List.mem_of_getElem? (i := 96) rfl)) (hw _ (List.mem_of_getElem? (i := 95) rfl)) (nfs (z := (⟨"java/lang/String", "coder", "()B"⟩ : MethodName)) (hw _ (List.mem_of_getElem? (i := 96) rfl))) (by decide) rfl (lenOf pd_2829B rfl) rfl (Nat.le_of_eq rfl) d14_6 rfl (argsL := []) (rest := [(.int (16 : Int32))]) (W := 1) (q := 9)) (n_coder_0 l Z a0 hw hEL a1 zc rv h0 n0 PE2 PC2 PX PO) (hw _ (List.mem_of_getElem? (i := 97) rfl)) (hw _ (List.mem_of_getElem? (i := 4) rfl)) (by decide) (by decide) (by decide) (by decide) ?_
  intro v21 h21 hz21 hQ21
  obtain ⟨rfl, rfl⟩ := hQ21
  refine gs (mkF m 10 _ [(.int (16 : Int32))]) (fun T A t k => XS.ishr A B.x rfl (B.d d14_9) rfl k) ?_
  exact g_retI B d14_10 (by decide) (by decide) ⟨rfl, rfl⟩
theorem pd_2829I : parseMethodDescriptor "()I" = some ⟨[], some .int⟩ := by decide +kernel
theorem d13_10 : decode jdk_68_method_22_code 10 = .ok (.invokevirtual 32, 3) := by decide +kernel
theorem d13_13 : decode jdk_68_method_22_code 13 = .ok (.istore_n 2, 1) := by decide +kernel
theorem d13_14 : decode jdk_68_method_22_code 14 = .ok (.aload_n 0, 1) := by decide +kernel
theorem d13_15 : decode jdk_68_method_22_code 15 = .ok (.aload_n 0, 1) := by decide +kernel
theorem d13_16 : decode jdk_68_method_22_code 16 = .ok (.getfield 79, 3) := by decide +kernel
theorem d13_19 : decode jdk_68_method_22_code 19 = .ok (.iload_n 2, 1) := by decide +kernel
theorem d13_20 : decode jdk_68_method_22_code 20 = .ok (.iadd, 1) := by decide +kernel
theorem d16_0 : decode jdk_68_method_9_code 0 = .ok (.aload_n 0, 1) := by decide +kernel
theorem d16_1 : decode jdk_68_method_9_code 1 = .ok (.getfield 15, 3) := by decide +kernel
theorem d16_4 : decode jdk_68_method_9_code 4 = .ok (.arraylength, 1) := by decide +kernel
theorem d16_5 : decode jdk_68_method_9_code 5 = .ok (.aload_n 0, 1) := by decide +kernel
theorem d16_6 : decode jdk_68_method_9_code 6 = .ok (.getfield 22, 3) := by decide +kernel
theorem d16_9 : decode jdk_68_method_9_code 9 = .ok (.ishr, 1) := by decide +kernel
theorem d16_10 : decode jdk_68_method_9_code 10 = .ok (.istore_n 2, 1) := by decide +kernel
theorem d16_11 : decode jdk_68_method_9_code 11 = .ok (.iload_n 1, 1) := by decide +kernel
theorem d16_12 : decode jdk_68_method_9_code 12 = .ok (.iload_n 2, 1) := by decide +kernel
theorem d16_13 : decode jdk_68_method_9_code 13 = .ok (.isub, 1) := by decide +kernel
theorem d16_14 : decode jdk_68_method_9_code 14 = .ok (.ifCond .le 24, 3) := by decide +kernel
theorem d16_38 : decode jdk_68_method_9_code 38 = .ok (.return_, 1) := by decide +kernel
set_option maxRecDepth 65536 in
set_option maxHeartbeats 40000000 in
theorem n_eci_16_16 (l : Launch) (Z : State) (a0 : Array Value) (hw : ∀ d ∈ tables_1, d.before a0 Z = true) (hEL : EW Z a0 []) (a1 : Addr) (zc : Int32) (rv : Value) (tb : Addr) (kb : ClassId) (v0 v1 v2 v3 v4 v5 v6 v7 v8 v9 v10 v11 v12 v13 v14 v15 : Value) (kk : Int32) (h0 : Heap) (n0 : Nat) (PB : SBN Z h0 a1 tb kb (16 : Int32) kk [v0, v1, v2, v3, v4, v5, v6, v7, v8, v9, v10, v11, v12, v13, v14, v15]) (PX : Sts Z zc rv) (PO : Old Z n0 h0) :
    Met false Z [] l (⟨"java/lang/AbstractStringBuilder", "ensureCapacityInternal", "(I)V"⟩ : MethodName) jdk_68_method_9_code 3 none ({ frames := 0, cells := 0, slots := 0, locals := 0 } : Room) #[(.ref a1), (.int (16 : Int32))] h0 [] n0 (fun v h => v = none ∧ h0 = h) := by
  refine Met.of (a0 := a0) (Ls := #[.val (.ref a1), .val (.int (16 : Int32)), .unset]) (fun z => rfl) (plainFor_of_name pn_java_lang_AbstractStringBuilder) hEL (fun m => by first | (simp [entryFrame, mkF, argsToLocals, Value.category]; done) | rfl) ?_
  intro p e s m below meth c B hSf
  obtain ⟨SC, hzc, SF, rf⟩ := id PX
  obtain ⟨BE, BV, BC, BN, BA⟩ := id PB
  refine gs (mkF m 1 _ [(.ref a1)]) (fun T A t k => XS.aloadN A B.x rfl (B.d d16_0) rfl rfl k) ?_
  refine g_getF B (hw _ (List.mem_of_getElem? (i := 71) rfl)) Via.refl BV d16_1 (q := 4) rfl ?_
  refine g_len B BA d16_4 (q := 5) rfl ?_
  refine gs (mkF m 6 _ [(.ref a1), (.int (16 : Int32))]) (fun T A t k => XS.aloadN A B.x rfl (B.d d16_5) rfl rfl k) ?_
  refine g_getF B (hw _ (List.mem_of_getElem? (i := 73) rfl)) Via.refl BC d16_6 (q := 9) rfl ?_
  refine gs (mkF m 10 _ [(.int (16 : Int32))]) (fun T A t k => XS.ishr A B.x rfl (B.d d16_9) rfl k) ?_
  refine gs (mkF m 11 #[.val (.ref a1), .val (.int (16 : Int32)), .val (.int (16 : Int32))] []) (fun T A t k => XS.istoreN A B.x rfl (B.d d16_10) rfl (l' := #[.val (.ref a1), .val (.int (16 : Int32)), .val (.int (16 : Int32))]) rfl k) ?_
  refine gs (mkF m 12 _ [(.int (16 : Int32))]) (fun T A t k => XS.iloadN A B.x rfl (B.d d16_11) rfl k) ?_
  refine gs (mkF m 13 _ [(.int (16 : Int32)), (.int (16 : Int32))]) (fun T A t k => XS.iloadN A B.x rfl (B.d d16_12) rfl k) ?_
  refine gs (mkF m 14 _ [(.int (0 : Int32))]) (fun T A t k => XS.isub A B.x rfl (B.d d16_13) rfl k) ?_
  refine gs (mkF m 38 _ []) (fun T A t k => XS.ifYes A B.x rfl (pc0 := 14) (pc' := 38) rfl (B.d d16_14) rfl ((if0 _ _).trans (flt (by decide : ¬ ((0 : Int32) < (0 : Int32)))).2.2.2) (by decide) (by decide) k) ?_
  exact g_ret0 B d16_38 (by decide) (by decide) ⟨rfl, rfl⟩
theorem d13_21 : decode jdk_68_method_22_code 21 = .ok (.invokevirtual 100, 3) := by decide +kernel
theorem d13_24 : decode jdk_68_method_22_code 24 = .ok (.aload_n 0, 1) := by decide +kernel
theorem d13_25 : decode jdk_68_method_22_code 25 = .ok (.aload_n 0, 1) := by decide +kernel
theorem d13_26 : decode jdk_68_method_22_code 26 = .ok (.getfield 79, 3) := by decide +kernel
theorem d13_29 : decode jdk_68_method_22_code 29 = .ok (.aload_n 1, 1) := by decide +kernel
theorem d17_0 : decode jdk_68_method_73_code 0 = .ok (.aload_n 0, 1) := by decide +kernel
theorem d17_1 : decode jdk_68_method_73_code 1 = .ok (.aload_n 2, 1) := by decide +kernel
theorem d18_0 : decode jdk_68_method_71_code 0 = .ok (.getstatic 18, 3) := by decide +kernel
theorem d18_3 : decode jdk_68_method_71_code 3 = .ok (.ifCond .eq 18, 3) := by decide +kernel
theorem d18_6 : decode jdk_68_method_71_code 6 = .ok (.aload_n 0, 1) := by decide +kernel
theorem d18_7 : decode jdk_68_method_71_code 7 = .ok (.getfield 22, 3) := by decide +kernel
theorem d18_10 : decode jdk_68_method_71_code 10 = .ok (.aload_n 1, 1) := by decide +kernel
theorem d18_11 : decode jdk_68_method_71_code 11 = .ok (.invokevirtual 40, 3) := by decide +kernel
theorem d18_14 : decode jdk_68_method_71_code 14 = .ok (.if_icmp .eq 7, 3) := by decide +kernel
theorem d18_21 : decode jdk_68_method_71_code 21 = .ok (.return_, 1) := by decide +kernel
set_option maxRecDepth 65536 in
set_option maxHeartbeats 40000000 in
theorem n_infl_16 (l : Launch) (Z : State) (a0 : Array Value) (hw : ∀ d ∈ tables_1, d.before a0 Z = true) (hEL : EW Z a0 []) (a1 : Addr) (a2 : Addr) (zc : Int32) (rv : Value) (tb : Addr) (kb : ClassId) (v0 v1 v2 v3 v4 v5 v6 v7 v8 v9 v10 v11 v12 v13 v14 v15 : Value) (kk : Int32) (h0 : Heap) (n0 : Nat) (PB : SBN Z h0 a1 tb kb (16 : Int32) kk [v0, v1, v2, v3, v4, v5, v6, v7, v8, v9, v10, v11, v12, v13, v14, v15]) (PE2 : Exa Z h0 a2 "java/lang/String") (PC2 : Fld Z h0 a2 "java/lang/String" "coder" "B" (.int (0 : Int32))) (PX : Sts Z zc rv) (PO : Old Z n0 h0) :
    Met false Z [] l (⟨"java/lang/AbstractStringBuilder", "inflateIfNeededFor", "(Ljava/lang/String;)V"⟩ : MethodName) jdk_68_method_71_code 2 none ({ frames := 1, cells := 0, slots := 0, locals := 13 } : Room) #[(.ref a1), (.ref a2)] h0 [] n0 (fun v h => v = none ∧ h0 = h) := by
  refine Met.of (a0 := a0) (Ls := #[.val (.ref a1), .val (.ref a2)]) (fun z => rfl) (plainFor_of_name pn_java_lang_AbstractStringBuilder) hEL (fun m => by first | (simp [entryFrame, mkF, argsToLocals, Value.category]; done) | rfl) ?_
  intro p e s m below meth c B hSf
  obtain ⟨SC, hzc, SF, rf⟩ := id PX
  obtain ⟨BE, BV, BC, BN, BA⟩ := id PB
  refine g_getS B (hw _ (List.mem_of_getElem? (i := 70) rfl)) (SC.ext PO.2) d18_0 (q := 3) rfl ?_
  refine gs (mkF m 6 _ []) (fun T A t k => XS.ifNo A B.x rfl (B.d d18_3) rfl ((if0 _ _).trans (feq (hzc : ¬ (zc = (0 : Int32)))).1) k) ?_
  refine gs (mkF m 7 _ [(.ref a1)]) (fun T A t k => XS.aloadN A B.x rfl (B.d d18_6) rfl rfl k) ?_
  refine g_getF B (hw _ (List.mem_of_getElem? (i := 73) rfl)) Via.refl BC d18_7 (q := 10) rfl ?_
  refine gs (mkF m 11 _ [(.ref a2), (.int (0 : Int32))]) (fun T A t k => XS.aloadN A B.x rfl (B.d d18_10) rfl rfl k) ?_
  refine g_metN (c_virt B PE2 (hw _ (List.mem_of_getElem? (i := 115) rfl)) (hw _ (List.mem_of_getElem? (i := 94) rfl)) (hw _ (List.mem_of_getElem? (i := 96) rfl)) (hw _ (List.mem_of_getElem? (i := 95) rfl)) (nfs (z := (⟨"java/lang/String", "coder", "()B"⟩ : MethodName)) (hw _ (List.mem_of_getElem? (i := 96) rfl))) (by decide) rfl (lenOf pd_2829B rfl) rfl (Nat.le_of_eq rfl) d18_11 rfl (argsL := []) (rest := [(.int (0 : Int32))]) (W := 1) (q := 14)) (n_coder_0 l Z a0 hw hEL a2 zc rv h0 n0 PE2 PC2 PX PO) (hw _ (List.mem_of_getElem? (i := 97) rfl)) (hw _ (List.mem_of_getElem? (i := 4) rfl)) (by decide) (by decide) (by decide) (by decide) ?_
  intro v21 h21 hz21 hQ21
  obtain ⟨rfl, rfl⟩ := hQ21
  refine gs (mkF m 21 _ []) (fun T A t k => XS.icmpYes A B.x rfl (pc0 := 14) (pc' := 21) rfl (B.d d18_14) rfl (teq (by decide : (0 : Int32) = (0 : Int32))).1 (by decide) (by decide) k) ?_
  exact g_ret0 B d18_21 (by decide) (by decide) ⟨rfl, rfl⟩
theorem pd_28Ljava2flang2fString3b29V : parseMethodDescriptor "(Ljava/lang/String;)V" = some ⟨[(.object "java/lang/String")], none⟩ := by decide +kernel
theorem d17_2 : decode jdk_68_method_73_code 2 = .ok (.invokevirtual 397, 3) := by decide +kernel
theorem d17_5 : decode jdk_68_method_73_code 5 = .ok (.aload_n 2, 1) := by decide +kernel
theorem d17_6 : decode jdk_68_method_73_code 6 = .ok (.aload_n 0, 1) := by decide +kernel
theorem d17_7 : decode jdk_68_method_73_code 7 = .ok (.getfield 15, 3) := by decide +kernel
theorem d17_10 : decode jdk_68_method_73_code 10 = .ok (.iload_n 1, 1) := by decide +kernel
theorem d17_11 : decode jdk_68_method_73_code 11 = .ok (.aload_n 0, 1) := by decide +kernel
theorem d17_12 : decode jdk_68_method_73_code 12 = .ok (.getfield 22, 3) := by decide +kernel
theorem d19_0 : decode jdk_42_method_147_code 0 = .ok (.aload_n 0, 1) := by decide +kernel
theorem d19_1 : decode jdk_42_method_147_code 1 = .ok (.invokevirtual 335, 3) := by decide +kernel
theorem d19_4 : decode jdk_42_method_147_code 4 = .ok (.iload_n 3, 1) := by decide +kernel
theorem d19_5 : decode jdk_42_method_147_code 5 = .ok (.if_icmp .ne 23, 3) := by decide +kernel
theorem d19_8 : decode jdk_42_method_147_code 8 = .ok (.aload_n 0, 1) := by decide +kernel
theorem d19_9 : decode jdk_42_method_147_code 9 = .ok (.getfield 9, 3) := by decide +kernel
theorem d19_12 : decode jdk_42_method_147_code 12 = .ok (.iconst 0, 1) := by decide +kernel
theorem d19_13 : decode jdk_42_method_147_code 13 = .ok (.aload_n 1, 1) := by decide +kernel
theorem d19_14 : decode jdk_42_method_147_code 14 = .ok (.iload_n 2, 1) := by decide +kernel
theorem d19_15 : decode jdk_42_method_147_code 15 = .ok (.iload_n 3, 1) := by decide +kernel
theorem d19_16 : decode jdk_42_method_147_code 16 = .ok (.ishl, 1) := by decide +kernel
theorem d19_17 : decode jdk_42_method_147_code 17 = .ok (.aload_n 0, 1) := by decide +kernel
theorem d19_18 : decode jdk_42_method_147_code 18 = .ok (.getfield 9, 3) := by decide +kernel
theorem d19_21 : decode jdk_42_method_147_code 21 = .ok (.arraylength, 1) := by decide +kernel
theorem d19_22 : decode jdk_42_method_147_code 22 = .ok (.invokestatic 212, 3) := by decide +kernel
theorem d19_25 : decode jdk_42_method_147_code 25 = .ok (.goto 18, 3) := by decide +kernel
theorem d19_43 : decode jdk_42_method_147_code 43 = .ok (.return_, 1) := by decide +kernel
set_option maxRecDepth 65536 in
set_option maxHeartbeats 40000000 in
theorem n_gby_16_0_16 (l : Launch) (Z : State) (a0 : Array Value) (hw : ∀ d ∈ tables_1, d.before a0 Z = true) (hEL : EW Z a0 []) (a1 : Addr) (a2 : Addr) (zc : Int32) (rv : Value) (t2 : Addr) (k2 kb : ClassId) (v0 v1 v2 v3 v4 v5 v6 v7 v8 v9 v10 v11 v12 v13 v14 v15 u0 u1 u2 u3 u4 u5 u6 u7 u8 u9 u10 u11 u12 u13 u14 u15 : Value) (h0 : Heap) (n0 : Nat) (PE2 : Exa Z h0 a1 "java/lang/String") (PC2 : Fld Z h0 a1 "java/lang/String" "coder" "B" (.int (0 : Int32))) (PV2 : Fld Z h0 a1 "java/lang/String" "value" "[B" (.ref t2)) (PA2 : Arv Z h0 t2 k2 .byte (16 : Int32) [u0, u1, u2, u3, u4, u5, u6, u7, u8, u9, u10, u11, u12, u13, u14, u15] (.int (0 : Int32))) (PD : Arv Z h0 a2 kb .byte (16 : Int32) [v0, v1, v2, v3, v4, v5, v6, v7, v8, v9, v10, v11, v12, v13, v14, v15] (.int (0 : Int32))) (hd : @LE.le Nat _ n0 a2) (PX : Sts Z zc rv) (PO : Old Z n0 h0) :
    Met false Z [] l (⟨"java/lang/String", "getBytes", "([BIB)V"⟩ : MethodName) jdk_42_method_147_code 4 none ({ frames := 1, cells := 0, slots := 0, locals := 18 } : Room) #[(.ref a1), (.ref a2), (.int (0 : Int32)), (.int (0 : Int32))] h0 [] n0 (fun v h => v = none ∧ Keep h0 h [a2] ∧ Arv Z h a2 kb .byte (16 : Int32) [u0, u1, u2, u3, u4, u5, u6, u7, u8, u9, u10, u11, u12, u13, u14, u15] (.int (0 : Int32))) := by
  refine Met.of (a0 := a0) (Ls := #[.val (.ref a1), .val (.ref a2), .val (.int (0 : Int32)), .val (.int (0 : Int32))]) (fun z => rfl) (plainFor_of_name pn_java_lang_String) hEL (fun m => by first | (simp [entryFrame, mkF, argsToLocals, Value.category]; done) | rfl) ?_
  intro p e s m below meth c B hSf
  obtain ⟨SC, hzc, SF, rf⟩ := id PX
  refine gs (mkF m 1 _ [(.ref a1)]) (fun T A t k => XS.aloadN A B.x rfl (B.d d19_0) rfl rfl k) ?_
  refine g_metN (c_virt B PE2 (hw _ (List.mem_of_getElem? (i := 93) rfl)) (hw _ (List.mem_of_getElem? (i := 94) rfl)) (hw _ (List.mem_of_getElem? (i := 96) rfl)) (hw _ (List.mem_of_getElem? (i := 95) rfl)) (nfs (z := (⟨"java/lang/String", "coder", "()B"⟩ : MethodName)) (hw _ (List.mem_of_getElem? (i := 96) rfl))) (by decide) rfl (lenOf pd_2829B rfl) rfl (Nat.le_of_eq rfl) d19_1 rfl (argsL := []) (rest := []) (W := 0) (q := 4)) (n_coder_0 l Z a0 hw hEL a1 zc rv h0 n0 PE2 PC2 PX PO) (hw _ (List.mem_of_getElem? (i := 97) rfl)) (hw _ (List.mem_of_getElem? (i := 4) rfl)) (by decide) (by decide) (by decide) (by decide) ?_
  intro v21 h21 hz21 hQ21
  obtain ⟨rfl, rfl⟩ := hQ21
  refine gs (mkF m 5 _ [(.int (0 : Int32)), (.int (0 : Int32))]) (fun T A t k => XS.iloadN A B.x rfl (B.d d19_4) rfl k) ?_
  refine gs (mkF m 8 _ []) (fun T A t k => XS.icmpNo A B.x rfl (B.d d19_5) rfl (teq (by decide : (0 : Int32) = (0 : Int32))).2 k) ?_
  refine gs (mkF m 9 _ [(.ref a1)]) (fun T A t k => XS.aloadN A B.x rfl (B.d d19_8) rfl rfl k) ?_
  refine g_getF B (hw _ (List.mem_of_getElem? (i := 29) rfl)) Via.refl PV2 d19_9 (q := 12) rfl ?_
  refine gs (mkF m 13 _ [(.int (0 : Int32)), (.ref t2)]) (fun T A t k => XS.iconst A B.x rfl (B.d d19_12) k) ?_
  refine gs (mkF m 14 _ [(.ref a2), (.int (0 : Int32)), (.ref t2)]) (fun T A t k => XS.aloadN A B.x rfl (B.d d19_13) rfl rfl k) ?_
  refine gs (mkF m 15 _ [(.int (0 : Int32)), (.ref a2), (.int (0 : Int32)), (.ref t2)]) (fun T A t k => XS.iloadN A B.x rfl (B.d d19_14) rfl k) ?_
  refine gs (mkF m 16 _ [(.int (0 : Int32)), (.int (0 : Int32)), (.ref a2), (.int (0 : Int32)), (.ref t2)]) (fun T A t k => XS.iloadN A B.x rfl (B.d d19_15) rfl k) ?_
  refine gs (mkF m 17 _ [(.int (0 : Int32)), (.ref a2), (.int (0 : Int32)), (.ref t2)]) (fun T A t k => XS.ishl A B.x rfl (B.d d19_16) rfl k) ?_
  refine gs (mkF m 18 _ [(.ref a1), (.int (0 : Int32)), (.ref a2), (.int (0 : Int32)), (.ref t2)]) (fun T A t k => XS.aloadN A B.x rfl (B.d d19_17) rfl rfl k) ?_
  refine g_getF B (hw _ (List.mem_of_getElem? (i := 29) rfl)) Via.refl PV2 d19_18 (q := 21) rfl ?_
  refine g_len B PA2 d19_21 (q := 22) rfl ?_
  refine g_cp (us := [u0, u1, u2, u3, u4, u5, u6, u7, u8, u9, u10, u11, u12, u13, u14, u15]) (vr := [u0, u1, u2, u3, u4, u5, u6, u7, u8, u9, u10, u11, u12, u13, u14, u15]) (W := 0) B (hw _ (List.mem_of_getElem? (i := 121) rfl)) (hw _ (List.mem_of_getElem? (i := 124) rfl)) (hw _ (List.mem_of_getElem? (i := 122) rfl)) (hw _ (List.mem_of_getElem? (i := 123) rfl)) PA2 PD (Or.inl ⟨rfl, rfl⟩) (by decide) (by decide) (by decide) (by decide) (by decide) rfl (Nat.le_of_ble_eq_true rfl) rfl rfl d19_22 (by decide) (Nat.le_of_eq rfl) (by decide) nos (by omega) (q := 25) rfl ?_
  intro h22 K22 V22
  have z22 := K22.1
  refine gs (mkF m 43 _ []) (fun T A t k => XS.goto A B.x rfl (pc0 := 25) (pc' := 43) rfl (B.d d19_25) (by decide) (by decide) k) ?_
  exact g_ret0 B d19_43 (by decide) (by decide) ⟨rfl, ((Keep.refl h0 [a2]).trans K22 (allS (Or.inl (by simp)) all0)), V22⟩
theorem pd_285bBIB29V : parseMethodDescriptor "([BIB)V" = some ⟨[(.array .byte), .int, .byte], none⟩ := by decide +kernel
theorem d17_15 : decode jdk_68_method_73_code 15 = .ok (.invokevirtual 399, 3) := by decide +kernel
theorem d17_18 : decode jdk_68_method_73_code 18 = .ok (.return_, 1) := by decide +kernel
set_option maxRecDepth 65536 in
set_option maxHeartbeats 40000000 in
theorem n_psa_16_0_16 (l : Launch) (Z : State) (a0 : Array Value) (hw : ∀ d ∈ tables_1, d.before a0 Z = true) (hEL : EW Z a0 []) (a1 : Addr) (a2 : Addr) (zc : Int32) (rv : Value) (tb : Addr) (kb : ClassId) (v0 v1 v2 v3 v4 v5 v6 v7 v8 v9 v10 v11 v12 v13 v14 v15 : Value) (t2 : Addr) (k2 : ClassId) (u0 u1 u2 u3 u4 u5 u6 u7 u8 u9 u10 u11 u12 u13 u14 u15 : Value) (kk : Int32) (h0 : Heap) (n0 : Nat) (PB : SBN Z h0 a1 tb kb (16 : Int32) kk [v0, v1, v2, v3, v4, v5, v6, v7, v8, v9, v10, v11, v12, v13, v14, v15]) (PE2 : Exa Z h0 a2 "java/lang/String") (PC2 : Fld Z h0 a2 "java/lang/String" "coder" "B" (.int (0 : Int32))) (PV2 : Fld Z h0 a2 "java/lang/String" "value" "[B" (.ref t2)) (PA2 : Arv Z h0 t2 k2 .byte (16 : Int32) [u0, u1, u2, u3, u4, u5, u6, u7, u8, u9, u10, u11, u12, u13, u14, u15] (.int (0 : Int32))) (hd : @LE.le Nat _ n0 tb) (PX : Sts Z zc rv) (PO : Old Z n0 h0) :
    Met false Z [] l (⟨"java/lang/AbstractStringBuilder", "putStringAt", "(ILjava/lang/String;)V"⟩ : MethodName) jdk_68_method_73_code 3 none ({ frames := 2, cells := 0, slots := 0, locals := 33 } : Room) #[(.ref a1), (.int (0 : Int32)), (.ref a2)] h0 [] n0 (fun v h => v = none ∧ Keep h0 h [tb] ∧ Arv Z h tb kb .byte (16 : Int32) [u0, u1, u2, u3, u4, u5, u6, u7, u8, u9, u10, u11, u12, u13, u14, u15] (.int (0 : Int32))) := by
  refine Met.of (a0 := a0) (Ls := #[.val (.ref a1), .val (.int (0 : Int32)), .val (.ref a2)]) (fun z => rfl) (plainFor_of_name pn_java_lang_AbstractStringBuilder) hEL (fun m => by first | (simp [entryFrame, mkF, argsToLocals, Value.category]; done) | rfl) ?_
  intro p e s m below meth c B hSf
  obtain ⟨SC, hzc, SF, rf⟩ := id PX
  obtain ⟨BE, BV, BC, BN, BA⟩ := id PB
  refine gs (mkF m 1 _ [(.ref a1)]) (fun T A t k => XS.aloadN A B.x rfl (B.d d17_0) rfl rfl k) ?_
  refine gs (mkF m 2 _ [(.ref a2), (.ref a1)]) (fun T A t k => XS.aloadN A B.x rfl (B.d d17_1) rfl rfl k) ?_
  refine g_metN (c_priv B BE (hw _ (List.mem_of_getElem? (i := 110) rfl)) (hw _ (List.mem_of_getElem? (i := 111) rfl)) (hw _ (List.mem_of_getElem? (i := 112) rfl)) (hw _ (List.mem_of_getElem? (i := 114) rfl)) (z := (⟨"java/lang/AbstractStringBuilder", "ensureCapacityInternal", "(I)V"⟩ : MethodName)) (hw _ (List.mem_of_getElem? (i := 103) rfl)) rfl (by decide) rfl (lenOf pd_28Ljava2flang2fString3b29V rfl) rfl (Nat.le_of_eq rfl) d17_2 rfl (argsL := [(.ref a2)]) (rest := []) (W := 0) (q := 5)) (n_infl_16 l Z a0 hw hEL a1 a2 zc rv tb kb v0 v1 v2 v3 v4 v5 v6 v7 v8 v9 v10 v11 v12 v13 v14 v15 kk h0 n0 ⟨BE, BV, BC, BN, BA⟩ PE2 PC2 PX PO) (hw _ (List.mem_of_getElem? (i := 114) rfl)) (hw _ (List.mem_of_getElem? (i := 67) rfl)) (by decide) (by decide) (by decide) (by decide) ?_
  intro v21 h21 hz21 hQ21
  obtain ⟨rfl, rfl⟩ := hQ21
  refine gs (mkF m 6 _ [(.ref a2)]) (fun T A t k => XS.aloadN A B.x rfl (B.d d17_5) rfl rfl k) ?_
  refine gs (mkF m 7 _ [(.ref a1), (.ref a2)]) (fun T A t k => XS.aloadN A B.x rfl (B.d d17_6) rfl rfl k) ?_
  refine g_getF B (hw _ (List.mem_of_getElem? (i := 71) rfl)) Via.refl BV d17_7 (q := 10) rfl ?_
  refine gs (mkF m 11 _ [(.int (0 : Int32)), (.ref tb), (.ref a2)]) (fun T A t k => XS.iloadN A B.x rfl (B.d d17_10) rfl k) ?_
  refine gs (mkF m 12 _ [(.ref a1), (.int (0 : Int32)), (.ref tb), (.ref a2)]) (fun T A t k => XS.aloadN A B.x rfl (B.d d17_11) rfl rfl k) ?_
  refine g_getF B (hw _ (List.mem_of_getElem? (i := 73) rfl)) Via.refl BC d17_12 (q := 15) rfl ?_
  refine g_metN (c_virt B PE2 (hw _ (List.mem_of_getElem? (i := 116) rfl)) (hw _ (List.mem_of_getElem? (i := 117) rfl)) (hw _ (List.mem_of_getElem? (i := 119) rfl)) (hw _ (List.mem_of_getElem? (i := 118) rfl)) (nfs (z := (⟨"java/lang/String", "getBytes", "([BIB)V"⟩ : MethodName)) (hw _ (List.mem_of_getElem? (i := 119) rfl))) (by decide) rfl (lenOf pd_285bBIB29V rfl) rfl (Nat.le_of_eq rfl) d17_15 rfl (argsL := [(.ref tb), (.int (0 : Int32)), (.int (0 : Int32))]) (rest := []) (W := 0) (q := 18)) (n_gby_16_0_16 l Z a0 hw hEL a2 tb zc rv t2 k2 kb v0 v1 v2 v3 v4 v5 v6 v7 v8 v9 v10 v11 v12 v13 v14 v15 u0 u1 u2 u3 u4 u5 u6 u7 u8 u9 u10 u11 u12 u13 u14 u15 h0 n0 PE2 PC2 PV2 PA2 BA (by omega) PX PO) (hw _ (List.mem_of_getElem? (i := 120) rfl)) (hw _ (List.mem_of_getElem? (i := 4) rfl)) (by decide) (by decide) (by decide) (by decide) ?_
  intro v22 h22 hz22 hQ22
  obtain ⟨rfl, K22, V22⟩ := hQ22
  have z22 := K22.1
  exact g_ret0 B d17_18 (by decide) (by decide) ⟨rfl, ((Keep.refl h0 [tb]).trans K22 (allS (Or.inl (by simp)) all0)), V22⟩
theorem pd_28ILjava2flang2fString3b29V : parseMethodDescriptor "(ILjava/lang/String;)V" = some ⟨[.int, (.object "java/lang/String")], none⟩ := by decide +kernel
theorem d13_30 : decode jdk_68_method_22_code 30 = .ok (.invokevirtual 208, 3) := by decide +kernel
theorem d13_33 : decode jdk_68_method_22_code 33 = .ok (.aload_n 0, 1) := by decide +kernel
theorem d13_34 : decode jdk_68_method_22_code 34 = .ok (.dup, 1) := by decide +kernel
theorem d13_35 : decode jdk_68_method_22_code 35 = .ok (.getfield 79, 3) := by decide +kernel
theorem d13_38 : decode jdk_68_method_22_code 38 = .ok (.iload_n 2, 1) := by decide +kernel
theorem d13_39 : decode jdk_68_method_22_code 39 = .ok (.iadd, 1) := by decide +kernel
theorem d13_40 : decode jdk_68_method_22_code 40 = .ok (.putfield 79, 3) := by decide +kernel
theorem d13_43 : decode jdk_68_method_22_code 43 = .ok (.aload_n 0, 1) := by decide +kernel
theorem d13_44 : decode jdk_68_method_22_code 44 = .ok (.areturn, 1) := by decide +kernel
set_option maxRecDepth 65536 in
set_option maxHeartbeats 40000000 in
theorem n_aapp_16_0_16 (l : Launch) (Z : State) (a0 : Array Value) (hw : ∀ d ∈ tables_1, d.before a0 Z = true) (hEL : EW Z a0 []) (a1 : Addr) (a2 : Addr) (zc : Int32) (rv : Value) (tb : Addr) (kb : ClassId) (v0 v1 v2 v3 v4 v5 v6 v7 v8 v9 v10 v11 v12 v13 v14 v15 : Value) (t2 : Addr) (k2 : ClassId) (u0 u1 u2 u3 u4 u5 u6 u7 u8 u9 u10 u11 u12 u13 u14 u15 : Value) (h0 : Heap) (n0 : Nat) (PB : SBN Z h0 a1 tb kb (16 : Int32) (0 : Int32) [v0, v1, v2, v3, v4, v5, v6, v7, v8, v9, v10, v11, v12, v13, v14, v15]) (PE2 : Exa Z h0 a2 "java/lang/String") (PC2 : Fld Z h0 a2 "java/lang/String" "coder" "B" (.int (0 : Int32))) (PV2 : Fld Z h0 a2 "java/lang/String" "value" "[B" (.ref t2)) (PA2 : Arv Z h0 t2 k2 .byte (16 : Int32) [u0, u1, u2, u3, u4, u5, u6, u7, u8, u9, u10, u11, u12, u13, u14, u15] (.int (0 : Int32))) (hn : @LE.le Nat _ n0 h0.size) (hd : @LE.le Nat _ n0 tb) (hd1 : @LE.le Nat _ n0 a1) (hne : @Ne Nat a1 tb) (hna : @Ne Nat a2 a1) (hnt : @Ne Nat t2 a1) (PX : Sts Z zc rv) (PO : Old Z n0 h0) :
    Met false Z [] l (⟨"java/lang/AbstractStringBuilder", "append", "(Ljava/lang/String;)Ljava/lang/AbstractStringBuilder;"⟩ : MethodName) jdk_68_method_22_code 3 (some (.object "java/lang/AbstractStringBuilder")) ({ frames := 3, cells := 0, slots := 0, locals := 47 } : Room) #[(.ref a1), (.ref a2)] h0 [] n0 (fun v h => v = some (.ref a1) ∧ Keep h0 h [a1, tb] ∧ SBN Z h a1 tb kb (16 : Int32) (16 : Int32) [u0, u1, u2, u3, u4, u5, u6, u7, u8, u9, u10, u11, u12, u13, u14, u15]) := by
  refine Met.of (a0 := a0) (Ls := #[.val (.ref a1), .val (.ref a2), .unset]) (fun z => rfl) (plainFor_of_name pn_java_lang_AbstractStringBuilder) hEL (fun m => by first | (simp [entryFrame, mkF, argsToLocals, Value.category]; done) | rfl) ?_
  intro p e s m below meth c B hSf
  obtain ⟨SC, hzc, SF, rf⟩ := id PX
  obtain ⟨BE, BV, BC, BN, BA⟩ := id PB
  have hlt1 : @LT.lt Nat _ a1 h0.size := BE.lt; have hlt2 : @LT.lt Nat _ a2 h0.size := PE2.lt; have hlt3 : @LT.lt Nat _ t2 h0.size := PA2.lt
  refine gs (mkF m 1 _ [(.ref a2)]) (fun T A t k => XS.aloadN A B.x rfl (B.d d13_0) rfl rfl k) ?_
  refine gs (mkF m 9 _ []) (fun T A t k => XS.ifnonnullYes A B.x rfl (pc0 := 1) (pc' := 9) rfl (B.d d13_1) rfl (by decide) (by decide) k) ?_
  refine gs (mkF m 10 _ [(.ref a2)]) (fun T A t k => XS.aloadN A B.x rfl (B.d d13_9) rfl rfl k) ?_
  refine g_metN (c_virt B PE2 (hw _ (List.mem_of_getElem? (i := 88) rfl)) (hw _ (List.mem_of_getElem? (i := 89) rfl)) (hw _ (List.mem_of_getElem? (i := 91) rfl)) (hw _ (List.mem_of_getElem? (i := 90) rfl)) (nfs (z := (⟨"java/lang/String", "length", "()I"⟩ : MethodName)) (hw _ (List.mem_of_getElem? (i := 91) rfl))) (by decide) rfl (lenOf pd_2829I rfl) rfl (Nat.le_of_eq rfl) d13_10 rfl (argsL := []) (rest := []) (W := 0) (q := 13)) (n_slen_16 l Z a0 hw hEL a2 zc rv t2 k2 u0 u1 u2 u3 u4 u5 u6 u7 u8 u9 u10 u11 u12 u13 u14 u15 h0 n0 PE2 PC2 PV2 PA2 PX PO) (hw _ (List.mem_of_getElem? (i := 92) rfl)) (hw _ (List.mem_of_getElem? (i := 4) rfl)) (by decide) (by decide) (by decide) (by decide) ?_
  intro v21 h21 hz21 hQ21
  obtain ⟨rfl, rfl⟩ := hQ21
  refine gs (mkF m 14 #[.val (.ref a1), .val (.ref a2), .val (.int (16 : Int32))] []) (fun T A t k => XS.istoreN A B.x rfl (B.d d13_13) rfl (l' := #[.val (.ref a1), .val (.ref a2), .val (.int (16 : Int32))]) rfl k) ?_
  refine gs (mkF m 15 _ [(.ref a1)]) (fun T A t k => XS.aloadN A B.x rfl (B.d d13_14) rfl rfl k) ?_
  refine gs (mkF m 16 _ [(.ref a1), (.ref a1)]) (fun T A t k => XS.aloadN A B.x rfl (B.d d13_15) rfl rfl k) ?_
  refine g_getF B (hw _ (List.mem_of_getElem? (i := 98) rfl)) Via.refl BN d13_16 (q := 19) rfl ?_
  refine gs (mkF m 20 _ [(.int (16 : Int32)), (.int (0 : Int32)), (.ref a1)]) (fun T A t k => XS.iloadN A B.x rfl (B.d d13_19) rfl k) ?_
  refine gs (mkF m 21 _ [(.int (16 : Int32)), (.ref a1)]) (fun T A t k => XS.iadd A B.x rfl (B.d d13_20) rfl k) ?_
  refine g_metN (c_priv B BE (hw _ (List.mem_of_getElem? (i := 100) rfl)) (hw _ (List.mem_of_getElem? (i := 101) rfl)) (hw _ (List.mem_of_getElem? (i := 102) rfl)) (hw _ (List.mem_of_getElem? (i := 104) rfl)) (z := (⟨"java/lang/AbstractStringBuilder", "ensureCapacityInternal", "(I)V"⟩ : MethodName)) (hw _ (List.mem_of_getElem? (i := 103) rfl)) rfl (by decide) rfl (lenOf pd_28I29V rfl) rfl (Nat.le_of_eq rfl) d13_21 rfl (argsL := [(.int (16 : Int32))]) (rest := []) (W := 0) (q := 24)) (n_eci_16_16 l Z a0 hw hEL a1 zc rv tb kb v0 v1 v2 v3 v4 v5 v6 v7 v8 v9 v10 v11 v12 v13 v14 v15 (0 : Int32) h0 n0 ⟨BE, BV, BC, BN, BA⟩  PX PO) (hw _ (List.mem_of_getElem? (i := 104) rfl)) (hw _ (List.mem_of_getElem? (i := 67) rfl)) (by decide) (by decide) (by decide) (by decide) ?_
  intro v22 h22 hz22 hQ22
  obtain ⟨rfl, rfl⟩ := hQ22
  refine gs (mkF m 25 _ [(.ref a1)]) (fun T A t k => XS.aloadN A B.x rfl (B.d d13_24) rfl rfl k) ?_
  refine gs (mkF m 26 _ [(.ref a1), (.ref a1)]) (fun T A t k => XS.aloadN A B.x rfl (B.d d13_25) rfl rfl k) ?_
  refine g_getF B (hw _ (List.mem_of_getElem? (i := 98) rfl)) Via.refl BN d13_26 (q := 29) rfl ?_
  refine gs (mkF m 30 _ [(.ref a2), (.int (0 : Int32)), (.ref a1)]) (fun T A t k => XS.aloadN A B.x rfl (B.d d13_29) rfl rfl k) ?_
  refine g_metN (c_priv B BE (hw _ (List.mem_of_getElem? (i := 105) rfl)) (hw _ (List.mem_of_getElem? (i := 106) rfl)) (hw _ (List.mem_of_getElem? (i := 107) rfl)) (hw _ (List.mem_of_getElem? (i := 109) rfl)) (z := (⟨"java/lang/AbstractStringBuilder", "ensureCapacityInternal", "(I)V"⟩ : MethodName)) (hw _ (List.mem_of_getElem? (i := 103) rfl)) rfl (by decide) rfl (lenOf pd_28ILjava2flang2fString3b29V rfl) rfl (Nat.le_of_eq rfl) d13_30 rfl (argsL := [(.int (0 : Int32)), (.ref a2)]) (rest := []) (W := 0) (q := 33)) (n_psa_16_0_16 l Z a0 hw hEL a1 a2 zc rv tb kb v0 v1 v2 v3 v4 v5 v6 v7 v8 v9 v10 v11 v12 v13 v14 v15 t2 k2 u0 u1 u2 u3 u4 u5 u6 u7 u8 u9 u10 u11 u12 u13 u14 u15 (0 : Int32) h0 n0 ⟨BE, BV, BC, BN, BA⟩ PE2 PC2 PV2 PA2 (by omega) PX PO) (hw _ (List.mem_of_getElem? (i := 109) rfl)) (hw _ (List.mem_of_getElem? (i := 67) rfl)) (by decide) (by decide) (by decide) (by decide) ?_
  intro v23 h23 hz23 hQ23
  obtain ⟨rfl, K23, V23⟩ := hQ23
  have z23 := K23.1
  refine gs (mkF m 34 _ [(.ref a1)]) (fun T A t k => XS.aloadN A B.x rfl (B.d d13_33) rfl rfl k) ?_
  refine gs (mkF m 35 _ [(.ref a1), (.ref a1)]) (fun T A t k => XS.dup A B.x rfl (B.d d13_34) rfl rfl k) ?_
  refine g_getF B (hw _ (List.mem_of_getElem? (i := 98) rfl)) Via.refl (BN.keep K23 (ninS (by omega : @Ne Nat a1 tb) nin0)) d13_35 (q := 38) rfl ?_
  refine gs (mkF m 39 _ [(.int (16 : Int32)), (.int (0 : Int32)), (.ref a1)]) (fun T A t k => XS.iloadN A B.x rfl (B.d d13_38) rfl k) ?_
  refine gs (mkF m 40 _ [(.int (16 : Int32)), (.ref a1)]) (fun T A t k => XS.iadd A B.x rfl (B.d d13_39) rfl k) ?_
  refine g_putF B (hw _ (List.mem_of_getElem? (i := 98) rfl)) Via.refl (BN.keep K23 (ninS (by omega : @Ne Nat a1 tb) nin0)) (BE.keep K23) (Or.inl (hw _ (List.mem_of_getElem? (i := 99) rfl))) (hw _ (List.mem_of_getElem? (i := 58) rfl)) (ty := .int) (by decide) rfl rfl d13_40 nos (by omega) (q := 43) rfl ?_
  intro h24 W24 F24
  have z24 := W24.size
  refine gs (mkF m 44 _ [(.ref a1)]) (fun T A t k => XS.aloadN A B.x rfl (B.d d13_43) rfl rfl k) ?_
  exact g_retA B rfl rfl d13_44 (by decide) (by decide) ⟨rfl, (((Keep.refl h0 [a1, tb]).trans K23 (allS (Or.inl (by simp)) all0)).wr W24 (Or.inl (by simp))), ⟨((BE.keep K23).wr W24), ((BV.keep K23 (ninS (by omega : @Ne Nat a1 tb) nin0)).other W24 (Or.inr (slot_ne (Or.inl (hw _ (List.mem_of_getElem? (i := 72) rfl))) (Or.inl (hw _ (List.mem_of_getElem? (i := 99) rfl))) (by decide) (t := (.array .byte)) (t' := .int) (by decide) (by decide)))), ((BC.keep K23 (ninS (by omega : @Ne Nat a1 tb) nin0)).other W24 (Or.inr (slot_ne (Or.inl (hw _ (List.mem_of_getElem? (i := 74) rfl))) (Or.inl (hw _ (List.mem_of_getElem? (i := 99) rfl))) (by decide) (t := .byte) (t' := .int) (by decide) (by decide)))), F24, (V23.other W24 (by omega : @Ne Nat tb a1))⟩⟩
theorem pd_28Ljava2flang2fString3b29Ljava2flang2fAbstractStringBuilder3b : parseMethodDescriptor "(Ljava/lang/String;)Ljava/lang/AbstractStringBuilder;" = some ⟨[(.object "java/lang/String")], some (.object "java/lang/AbstractStringBuilder")⟩ := by decide +kernel
theorem d12_2 : decode jdk_67_method_7_code 2 = .ok (.invokespecial 29, 3) := by decide +kernel
theorem d12_5 : decode jdk_67_method_7_code 5 = .ok (.pop, 1) := by decide +kernel
theorem d12_6 : decode jdk_67_method_7_code 6 = .ok (.aload_n 0, 1) := by decide +kernel
theorem d12_7 : decode jdk_67_method_7_code 7 = .ok (.areturn, 1) := by decide +kernel
set_option maxRecDepth 65536 in
set_option maxHeartbeats 40000000 in
theorem n_sapp_16_0_16 (l : Launch) (Z : State) (a0 : Array Value) (hw : ∀ d ∈ tables_1, d.before a0 Z = true) (hEL : EW Z a0 []) (a1 : Addr) (a2 : Addr) (zc : Int32) (rv : Value) (tb : Addr) (kb : ClassId) (v0 v1 v2 v3 v4 v5 v6 v7 v8 v9 v10 v11 v12 v13 v14 v15 : Value) (t2 : Addr) (k2 : ClassId) (u0 u1 u2 u3 u4 u5 u6 u7 u8 u9 u10 u11 u12 u13 u14 u15 : Value) (h0 : Heap) (n0 : Nat) (PB : SBN Z h0 a1 tb kb (16 : Int32) (0 : Int32) [v0, v1, v2, v3, v4, v5, v6, v7, v8, v9, v10, v11, v12, v13, v14, v15]) (PE2 : Exa Z h0 a2 "java/lang/String") (PC2 : Fld Z h0 a2 "java/lang/String" "coder" "B" (.int (0 : Int32))) (PV2 : Fld Z h0 a2 "java/lang/String" "value" "[B" (.ref t2)) (PA2 : Arv Z h0 t2 k2 .byte (16 : Int32) [u0, u1, u2, u3, u4, u5, u6, u7, u8, u9, u10, u11, u12, u13, u14, u15] (.int (0 : Int32))) (hn : @LE.le Nat _ n0 h0.size) (hd : @LE.le Nat _ n0 tb) (hd1 : @LE.le Nat _ n0 a1) (hne : @Ne Nat a1 tb) (hna : @Ne Nat a2 a1) (hnt : @Ne Nat t2 a1) (PX : Sts Z zc rv) (PO : Old Z n0 h0) :
    Met false Z [] l (⟨"java/lang/StringBuilder", "append", "(Ljava/lang/String;)Ljava/lang/StringBuilder;"⟩ : MethodName) jdk_67_method_7_code 2 (some (.object "java/lang/StringBuilder")) ({ frames := 4, cells := 0, slots := 0, locals := 61 } : Room) #[(.ref a1), (.ref a2)] h0 [] n0 (fun v h => v = some (.ref a1) ∧ Keep h0 h [a1, tb] ∧ SBN Z h a1 tb kb (16 : Int32) (16 : Int32) [u0, u1, u2, u3, u4, u5, u6, u7, u8, u9, u10, u11, u12, u13, u14, u15]) := by
  refine Met.of (a0 := a0) (Ls := #[.val (.ref a1), .val (.ref a2)]) (fun z => rfl) (plainFor_of_name pn_java_lang_StringBuilder) hEL (fun m => by first | (simp [entryFrame, mkF, argsToLocals, Value.category]; done) | rfl) ?_
  intro p e s m below meth c B hSf
  obtain ⟨SC, hzc, SF, rf⟩ := id PX
  obtain ⟨BE, BV, BC, BN, BA⟩ := id PB
  have hlt1 : @LT.lt Nat _ a1 h0.size := BE.lt; have hlt2 : @LT.lt Nat _ a2 h0.size := PE2.lt; have hlt3 : @LT.lt Nat _ t2 h0.size := PA2.lt
  refine gs (mkF m 1 _ [(.ref a1)]) (fun T A t k => XS.aloadN A B.x rfl (B.d d12_0) rfl rfl k) ?_
  refine gs (mkF m 2 _ [(.ref a2), (.ref a1)]) (fun T A t k => XS.aloadN A B.x rfl (B.d d12_1) rfl rfl k) ?_
  refine g_metN (c_super B BE (hw _ (List.mem_of_getElem? (i := 83) rfl)) (sameM (hw _ (List.mem_of_getElem? (i := 84) rfl)) (hw _ (List.mem_of_getElem? (i := 103) rfl)) rfl (by decide)) (hw _ (List.mem_of_getElem? (i := 84) rfl)) (hw _ (List.mem_of_getElem? (i := 85) rfl)) (by decide) (hw _ (List.mem_of_getElem? (i := 87) rfl)) rfl (lenOf pd_28Ljava2flang2fString3b29Ljava2flang2fAbstractStringBuilder3b rfl) rfl (Nat.le_of_eq rfl) d12_2 rfl (argsL := [(.ref a2)]) (rest := []) (W := 0) (q := 5)) (n_aapp_16_0_16 l Z a0 hw hEL a1 a2 zc rv tb kb v0 v1 v2 v3 v4 v5 v6 v7 v8 v9 v10 v11 v12 v13 v14 v15 t2 k2 u0 u1 u2 u3 u4 u5 u6 u7 u8 u9 u10 u11 u12 u13 u14 u15 h0 n0 ⟨BE, BV, BC, BN, BA⟩ PE2 PC2 PV2 PA2 (by omega) (by omega) (by omega) (by omega) (by omega) (by omega) PX PO) (hw _ (List.mem_of_getElem? (i := 87) rfl)) (hw _ (List.mem_of_getElem? (i := 67) rfl)) (by decide) (by decide) (by decide) (by decide) ?_
  intro v21 h21 hz21 hQ21
  obtain ⟨rfl, K9, B9⟩ := hQ21
  refine gs (mkF m 6 _ []) (fun T A t k => XS.pop A B.x rfl (B.d d12_5) rfl rfl k) ?_
  refine gs (mkF m 7 _ [(.ref a1)]) (fun T A t k => XS.aloadN A B.x rfl (B.d d12_6) rfl rfl k) ?_
  exact g_retA B rfl rfl d12_7 (by decide) (by decide) ⟨rfl, K9, B9⟩
theorem pd_28Ljava2flang2fString3b29Ljava2flang2fStringBuilder3b : parseMethodDescriptor "(Ljava/lang/String;)Ljava/lang/StringBuilder;" = some ⟨[(.object "java/lang/String")], some (.object "java/lang/StringBuilder")⟩ := by decide +kernel
theorem d9_9 : decode prog_15_method_7_code 9 = .ok (.invokevirtual 40, 3) := by decide +kernel
theorem d9_12 : decode prog_15_method_7_code 12 = .ok (.aload_n 0, 1) := by decide +kernel
theorem d9_13 : decode prog_15_method_7_code 13 = .ok (.getfield 29, 3) := by decide +kernel
set_option maxRecDepth 65536 in
set_option maxHeartbeats 40000000 in
theorem n_slen_3 (l : Launch) (Z : State) (a0 : Array Value) (hw : ∀ d ∈ tables_1, d.before a0 Z = true) (hEL : EW Z a0 []) (a1 : Addr) (zc : Int32) (rv : Value) (t2 : Addr) (k2 : ClassId) (u0 u1 u2 : Value) (h0 : Heap) (n0 : Nat) (PE2 : Exa Z h0 a1 "java/lang/String") (PC2 : Fld Z h0 a1 "java/lang/String" "coder" "B" (.int (0 : Int32))) (PV2 : Fld Z h0 a1 "java/lang/String" "value" "[B" (.ref t2)) (PA2 : Arv Z h0 t2 k2 .byte (3 : Int32) [u0, u1, u2] (.int (0 : Int32))) (PX : Sts Z zc rv) (PO : Old Z n0 h0) :
    Met false Z [] l (⟨"java/lang/String", "length", "()I"⟩ : MethodName) jdk_42_method_54_code 1 (some .int) ({ frames := 1, cells := 0, slots := 0, locals := 13 } : Room) #[(.ref a1)] h0 [] n0 (fun v h => v = some (.int (3 : Int32)) ∧ h0 = h) := by
  refine Met.of (a0 := a0) (Ls := #[.val (.ref a1)]) (fun z => rfl) (plainFor_of_name pn_java_lang_String) hEL (fun m => by first | (simp [entryFrame, mkF, argsToLocals, Value.category]; done) | rfl) ?_
  intro p e s m below meth c B hSf
  obtain ⟨SC, hzc, SF, rf⟩ := id PX
  refine gs (mkF m 1 _ [(.ref a1)]) (fun T A t k => XS.aloadN A B.x rfl (B.d d14_0) rfl rfl k) ?_
  refine g_getF B (hw _ (List.mem_of_getElem? (i := 29) rfl)) Via.refl PV2 d14_1 (q := 4) rfl ?_
  refine g_len B PA2 d14_4 (q := 5) rfl ?_
  refine gs (mkF m 6 _ [(.ref a1), (.int (3 : Int32))]) (fun T A t k => XS.aloadN A B.x rfl (B.d d14_5) rfl rfl k) ?_
  refine g_metN (c_virt B PE2 (hw _ (List.mem_of_getElem? (i := 93) rfl)) (hw _ (List.mem_of_getElem? (i := 94) rfl)) (hw _ (List.mem_of_getElem? (i := 96) rfl)) (hw _ (List.mem_of_getElem? (i := 95) rfl)) (nfs (z := (⟨"java/lang/String", "coder", "()B"⟩ : MethodName)) (hw _ (List.mem_of_getElem? (i := 96) rfl))) (by decide) rfl (lenOf pd_2829B rfl) rfl (Nat.le_of_eq rfl) d14_6 rfl (argsL := []) (rest := [(.int (3 : Int32))]) (W := 1) (q := 9)) (n_coder_0 l Z a0 hw hEL a1 zc rv h0 n0 PE2 PC2 PX PO) (hw _ (List.mem_of_getElem? (i := 97) rfl)) (hw _ (List.mem_of_getElem? (i := 4) rfl)) (by decide) (by decide) (by decide) (by decide) ?_
  intro v21 h21 hz21 hQ21
  obtain ⟨rfl, rfl⟩ := hQ21
  refine gs (mkF m 10 _ [(.int (3 : Int32))]) (fun T A t k => XS.ishr A B.x rfl (B.d d14_9) rfl k) ?_
  exact g_retI B d14_10 (by decide) (by decide) ⟨rfl, rfl⟩
theorem d16_17 : decode jdk_68_method_9_code 17 = .ok (.aload_n 0, 1) := by decide +kernel
theorem d16_18 : decode jdk_68_method_9_code 18 = .ok (.aload_n 0, 1) := by decide +kernel
theorem d16_19 : decode jdk_68_method_9_code 19 = .ok (.getfield 15, 3) := by decide +kernel
theorem d16_22 : decode jdk_68_method_9_code 22 = .ok (.aload_n 0, 1) := by decide +kernel
theorem d16_23 : decode jdk_68_method_9_code 23 = .ok (.iload_n 1, 1) := by decide +kernel
theorem d20_0 : decode jdk_68_method_10_code 0 = .ok (.aload_n 0, 1) := by decide +kernel
theorem d20_1 : decode jdk_68_method_10_code 1 = .ok (.getfield 15, 3) := by decide +kernel
theorem d20_4 : decode jdk_68_method_10_code 4 = .ok (.arraylength, 1) := by decide +kernel
theorem d20_5 : decode jdk_68_method_10_code 5 = .ok (.istore_n 2, 1) := by decide +kernel
theorem d20_6 : decode jdk_68_method_10_code 6 = .ok (.iload_n 1, 1) := by decide +kernel
theorem d20_7 : decode jdk_68_method_10_code 7 = .ok (.aload_n 0, 1) := by decide +kernel
theorem d20_8 : decode jdk_68_method_10_code 8 = .ok (.getfield 22, 3) := by decide +kernel
theorem d20_11 : decode jdk_68_method_10_code 11 = .ok (.ishl, 1) := by decide +kernel
theorem d20_12 : decode jdk_68_method_10_code 12 = .ok (.istore_n 3, 1) := by decide +kernel
theorem d20_13 : decode jdk_68_method_10_code 13 = .ok (.iload_n 3, 1) := by decide +kernel
theorem d20_14 : decode jdk_68_method_10_code 14 = .ok (.iload_n 2, 1) := by decide +kernel
theorem d20_15 : decode jdk_68_method_10_code 15 = .ok (.isub, 1) := by decide +kernel
theorem d20_16 : decode jdk_68_method_10_code 16 = .ok (.istore 4, 2) := by decide +kernel
theorem d20_18 : decode jdk_68_method_10_code 18 = .ok (.iload_n 2, 1) := by decide +kernel
theorem d20_19 : decode jdk_68_method_10_code 19 = .ok (.iload 4, 2) := by decide +kernel
theorem d20_21 : decode jdk_68_method_10_code 21 = .ok (.iload_n 2, 1) := by decide +kernel
theorem d20_22 : decode jdk_68_method_10_code 22 = .ok (.iconst 2, 1) := by decide +kernel
theorem d20_23 : decode jdk_68_method_10_code 23 = .ok (.aload_n 0, 1) := by decide +kernel
theorem d20_24 : decode jdk_68_method_10_code 24 = .ok (.getfield 22, 3) := by decide +kernel
theorem d20_27 : decode jdk_68_method_10_code 27 = .ok (.ishl, 1) := by decide +kernel
theorem d20_28 : decode jdk_68_method_10_code 28 = .ok (.iadd, 1) := by decide +kernel
theorem pn_jdk_internal_util_ArraysSupport : plainName "jdk/internal/util/ArraysSupport" = true := by first | (simp [plainName, overriddenIn]; done) | decide +kernel
theorem d21_0 : decode jdk_48_method_27_code 0 = .ok (.iload_n 0, 1) := by decide +kernel
theorem d21_1 : decode jdk_48_method_27_code 1 = .ok (.iload_n 1, 1) := by decide +kernel
theorem d21_2 : decode jdk_48_method_27_code 2 = .ok (.iload_n 2, 1) := by decide +kernel
theorem d22_0 : decode jdk_29_method_65_code 0 = .ok (.iload_n 0, 1) := by decide +kernel
theorem d22_1 : decode jdk_29_method_65_code 1 = .ok (.iload_n 1, 1) := by decide +kernel
theorem d22_2 : decode jdk_29_method_65_code 2 = .ok (.if_icmp .lt 7, 3) := by decide +kernel
theorem d22_9 : decode jdk_29_method_65_code 9 = .ok (.iload_n 1, 1) := by decide +kernel
theorem d22_10 : decode jdk_29_method_65_code 10 = .ok (.ireturn, 1) := by decide +kernel
set_option maxRecDepth 65536 in
set_option maxHeartbeats 40000000 in
theorem n_max_3_18 (l : Launch) (Z : State) (a0 : Array Value) (hw : ∀ d ∈ tables_1, d.before a0 Z = true) (hEL : EW Z a0 [])   (h0 : Heap) (n0 : Nat)  :
    Met false Z [] l (⟨"java/lang/Math", "max", "(II)I"⟩ : MethodName) jdk_29_method_65_code 2 (some .int) ({ frames := 0, cells := 0, slots := 0, locals := 0 } : Room) #[(.int (3 : Int32)), (.int (18 : Int32))] h0 [] n0 (fun v h => v = some (.int (18 : Int32)) ∧ h0 = h) := by
  refine Met.of (a0 := a0) (Ls := #[.val (.int (3 : Int32)), .val (.int (18 : Int32))]) (fun z => rfl) (Jvm.Free.JP.mathPlain rfl (by decide +kernel)) hEL (fun m => by first | (simp [entryFrame, mkF, argsToLocals, Value.category]; done) | rfl) ?_
  intro p e s m below meth c B hSf
  refine gs (mkF m 1 _ [(.int (3 : Int32))]) (fun T A t k => XS.iloadN A B.x rfl (B.d d22_0) rfl k) ?_
  refine gs (mkF m 2 _ [(.int (18 : Int32)), (.int (3 : Int32))]) (fun T A t k => XS.iloadN A B.x rfl (B.d d22_1) rfl k) ?_
  refine gs (mkF m 9 _ []) (fun T A t k => XS.icmpYes A B.x rfl (pc0 := 2) (pc' := 9) rfl (B.d d22_2) rfl (tlt (by decide : (3 : Int32) < (18 : Int32))).1 (by decide) (by decide) k) ?_
  refine gs (mkF m 10 _ [(.int (18 : Int32))]) (fun T A t k => XS.iloadN A B.x rfl (B.d d22_9) rfl k) ?_
  exact g_retI B d22_10 (by decide) (by decide) ⟨rfl, rfl⟩
theorem pd_28II29I : parseMethodDescriptor "(II)I" = some ⟨[.int, .int], some .int⟩ := by decide +kernel
theorem d21_3 : decode jdk_48_method_27_code 3 = .ok (.invokestatic 194, 3) := by decide +kernel
theorem d21_6 : decode jdk_48_method_27_code 6 = .ok (.iadd, 1) := by decide +kernel
theorem d21_7 : decode jdk_48_method_27_code 7 = .ok (.istore_n 3, 1) := by decide +kernel
theorem d21_8 : decode jdk_48_method_27_code 8 = .ok (.iconst 0, 1) := by decide +kernel
theorem d21_9 : decode jdk_48_method_27_code 9 = .ok (.iload_n 3, 1) := by decide +kernel
theorem d21_10 : decode jdk_48_method_27_code 10 = .ok (.if_icmp .ge 11, 3) := by decide +kernel
theorem d21_13 : decode jdk_48_method_27_code 13 = .ok (.iload_n 3, 1) := by decide +kernel
theorem d21_14 : decode jdk_48_method_27_code 14 = .ok (.ldc 200, 2) := by decide +kernel
theorem d21_16 : decode jdk_48_method_27_code 16 = .ok (.if_icmp .gt 5, 3) := by decide +kernel
theorem d21_19 : decode jdk_48_method_27_code 19 = .ok (.iload_n 3, 1) := by decide +kernel
theorem d21_20 : decode jdk_48_method_27_code 20 = .ok (.ireturn, 1) := by decide +kernel
set_option maxRecDepth 65536 in
set_option maxHeartbeats 40000000 in
theorem n_nlen_16_3_18 (l : Launch) (Z : State) (a0 : Array Value) (hw : ∀ d ∈ tables_1, d.before a0 Z = true) (hEL : EW Z a0 [])   (h0 : Heap) (n0 : Nat)  :
    Met false Z [] l (⟨"jdk/internal/util/ArraysSupport", "newLength", "(III)I"⟩ : MethodName) jdk_48_method_27_code 4 (some .int) ({ frames := 1, cells := 0, slots := 0, locals := 14 } : Room) #[(.int (16 : Int32)), (.int (3 : Int32)), (.int (18 : Int32))] h0 [] n0 (fun v h => v = some (.int (34 : Int32)) ∧ h0 = h) := by
  refine Met.of (a0 := a0) (Ls := #[.val (.int (16 : Int32)), .val (.int (3 : Int32)), .val (.int (18 : Int32)), .unset]) (fun z => rfl) (plainFor_of_name pn_jdk_internal_util_ArraysSupport) hEL (fun m => by first | (simp [entryFrame, mkF, argsToLocals, Value.category]; done) | rfl) ?_
  intro p e s m below meth c B hSf
  refine gs (mkF m 1 _ [(.int (16 : Int32))]) (fun T A t k => XS.iloadN A B.x rfl (B.d d21_0) rfl k) ?_
  refine gs (mkF m 2 _ [(.int (3 : Int32)), (.int (16 : Int32))]) (fun T A t k => XS.iloadN A B.x rfl (B.d d21_1) rfl k) ?_
  refine gs (mkF m 3 _ [(.int (18 : Int32)), (.int (3 : Int32)), (.int (16 : Int32))]) (fun T A t k => XS.iloadN A B.x rfl (B.d d21_2) rfl k) ?_
  refine g_metN (c_static B (hw _ (List.mem_of_getElem? (i := 136) rfl)) (hw _ (List.mem_of_getElem? (i := 137) rfl)) (hw _ (List.mem_of_getElem? (i := 138) rfl)) (hw _ (List.mem_of_getElem? (i := 139) rfl)) (by decide) rfl (lenOf pd_28II29I rfl) rfl (Nat.le_of_eq rfl) d21_3 rfl (argsL := [(.int (3 : Int32)), (.int (18 : Int32))]) (rest := [(.int (16 : Int32))]) (W := 1) (q := 6)) (n_max_3_18 l Z a0 hw hEL  h0 n0) (hw _ (List.mem_of_getElem? (i := 139) rfl)) (hw _ (List.mem_of_getElem? (i := 138) rfl)) (by decide) (by decide) (by decide) (by decide) ?_
  intro v1 h1 hz1 hQ1
  obtain ⟨rfl, rfl⟩ := hQ1
  refine gs (mkF m 7 _ [(.int (34 : Int32))]) (fun T A t k => XS.iadd A B.x rfl (B.d d21_6) rfl k) ?_
  refine gs (mkF m 8 #[.val (.int (16 : Int32)), .val (.int (3 : Int32)), .val (.int (18 : Int32)), .val (.int (34 : Int32))] []) (fun T A t k => XS.istoreN A B.x rfl (B.d d21_7) rfl (l' := #[.val (.int (16 : Int32)), .val (.int (3 : Int32)), .val (.int (18 : Int32)), .val (.int (34 : Int32))]) rfl k) ?_
  refine gs (mkF m 9 _ [(.int (0 : Int32))]) (fun T A t k => XS.iconst A B.x rfl (B.d d21_8) k) ?_
  refine gs (mkF m 10 _ [(.int (34 : Int32)), (.int (0 : Int32))]) (fun T A t k => XS.iloadN A B.x rfl (B.d d21_9) rfl k) ?_
  refine gs (mkF m 13 _ []) (fun T A t k => XS.icmpNo A B.x rfl (B.d d21_10) rfl (tlt (by decide : (0 : Int32) < (34 : Int32))).2.1 k) ?_
  refine gs (mkF m 14 _ [(.int (34 : Int32))]) (fun T A t k => XS.iloadN A B.x rfl (B.d d21_13) rfl k) ?_
  refine g_ldcI B (hw _ (List.mem_of_getElem? (i := 140) rfl)) d21_14 (q := 16) rfl ?_
  refine gs (mkF m 19 _ []) (fun T A t k => XS.icmpNo A B.x rfl (B.d d21_16) rfl (flt (by decide : ¬ ((2147483639 : Int32) < (34 : Int32)))).2.2.1 k) ?_
  refine gs (mkF m 20 _ [(.int (34 : Int32))]) (fun T A t k => XS.iloadN A B.x rfl (B.d d21_19) rfl k) ?_
  exact g_retI B d21_20 (by decide) (by decide) ⟨rfl, rfl⟩
theorem pd_28III29I : parseMethodDescriptor "(III)I" = some ⟨[.int, .int, .int], some .int⟩ := by decide +kernel
theorem d20_29 : decode jdk_68_method_10_code 29 = .ok (.invokestatic 114, 3) := by decide +kernel
theorem d20_32 : decode jdk_68_method_10_code 32 = .ok (.istore 5, 2) := by decide +kernel
theorem d20_34 : decode jdk_68_method_10_code 34 = .ok (.iload 5, 2) := by decide +kernel
theorem d20_36 : decode jdk_68_method_10_code 36 = .ok (.ldc 39, 2) := by decide +kernel
theorem d20_38 : decode jdk_68_method_10_code 38 = .ok (.if_icmp .ne 13, 3) := by decide +kernel
theorem d20_51 : decode jdk_68_method_10_code 51 = .ok (.iload 5, 2) := by decide +kernel
theorem d20_53 : decode jdk_68_method_10_code 53 = .ok (.aload_n 0, 1) := by decide +kernel
theorem d20_54 : decode jdk_68_method_10_code 54 = .ok (.getfield 22, 3) := by decide +kernel
theorem d20_57 : decode jdk_68_method_10_code 57 = .ok (.ishr, 1) := by decide +kernel
theorem d20_58 : decode jdk_68_method_10_code 58 = .ok (.ireturn, 1) := by decide +kernel
set_option maxRecDepth 65536 in
set_option maxHeartbeats 40000000 in
theorem n_sb_newCapacity_False_16_19 (l : Launch) (Z : State) (a0 : Array Value) (hw : ∀ d ∈ tables_1, d.before a0 Z = true) (hEL : EW Z a0 []) (a1 : Addr) (zc : Int32) (rv : Value) (tb : Addr) (kb : ClassId) (v0 v1 v2 v3 v4 v5 v6 v7 v8 v9 v10 v11 v12 v13 v14 v15 : Value) (kk : Int32) (h0 : Heap) (n0 : Nat) (PB : SBN Z h0 a1 tb kb (16 : Int32) kk [v0, v1, v2, v3, v4, v5, v6, v7, v8, v9, v10, v11, v12, v13, v14, v15]) (PX : Sts Z zc rv) (PO : Old Z n0 h0) :
    Met false Z [] l (⟨"java/lang/AbstractStringBuilder", "newCapacity", "(I)I"⟩ : MethodName) jdk_68_method_10_code 6 (some .int) ({ frames := 2, cells := 0, slots := 0, locals := 29 } : Room) #[(.ref a1), (.int (19 : Int32))] h0 [] n0 (fun v h => v = some (.int (34 : Int32)) ∧ h0 = h) := by
  refine Met.of (a0 := a0) (Ls := #[.val (.ref a1), .val (.int (19 : Int32)), .unset, .unset, .unset, .unset]) (fun z => rfl) (plainFor_of_name pn_java_lang_AbstractStringBuilder) hEL (fun m => by first | (simp [entryFrame, mkF, argsToLocals, Value.category]; done) | rfl) ?_
  intro p e s m below meth c B hSf
  obtain ⟨SC, hzc, SF, rf⟩ := id PX
  obtain ⟨BE, BV, BC, BN, BA⟩ := id PB
  refine gs (mkF m 1 _ [(.ref a1)]) (fun T A t k => XS.aloadN A B.x rfl (B.d d20_0) rfl rfl k) ?_
  refine g_getF B (hw _ (List.mem_of_getElem? (i := 71) rfl)) Via.refl BV d20_1 (q := 4) rfl ?_
  refine g_len B BA d20_4 (q := 5) rfl ?_
  refine gs (mkF m 6 #[.val (.ref a1), .val (.int (19 : Int32)), .val (.int (16 : Int32)), .unset, .unset, .unset] []) (fun T A t k => XS.istoreN A B.x rfl (B.d d20_5) rfl (l' := #[.val (.ref a1), .val (.int (19 : Int32)), .val (.int (16 : Int32)), .unset, .unset, .unset]) rfl k) ?_
  refine gs (mkF m 7 _ [(.int (19 : Int32))]) (fun T A t k => XS.iloadN A B.x rfl (B.d d20_6) rfl k) ?_
  refine gs (mkF m 8 _ [(.ref a1), (.int (19 : Int32))]) (fun T A t k => XS.aloadN A B.x rfl (B.d d20_7) rfl rfl k) ?_
  refine g_getF B (hw _ (List.mem_of_getElem? (i := 73) rfl)) Via.refl BC d20_8 (q := 11) rfl ?_
  refine gs (mkF m 12 _ [(.int (19 : Int32))]) (fun T A t k => XS.ishl A B.x rfl (B.d d20_11) rfl k) ?_
  refine gs (mkF m 13 #[.val (.ref a1), .val (.int (19 : Int32)), .val (.int (16 : Int32)), .val (.int (19 : Int32)), .unset, .unset] []) (fun T A t k => XS.istoreN A B.x rfl (B.d d20_12) rfl (l' := #[.val (.ref a1), .val (.int (19 : Int32)), .val (.int (16 : Int32)), .val (.int (19 : Int32)), .unset, .unset]) rfl k) ?_
  refine gs (mkF m 14 _ [(.int (19 : Int32))]) (fun T A t k => XS.iloadN A B.x rfl (B.d d20_13) rfl k) ?_
  refine gs (mkF m 15 _ [(.int (16 : Int32)), (.int (19 : Int32))]) (fun T A t k => XS.iloadN A B.x rfl (B.d d20_14) rfl k) ?_
  refine gs (mkF m 16 _ [(.int (3 : Int32))]) (fun T A t k => XS.isub A B.x rfl (B.d d20_15) rfl k) ?_
  refine gs (mkF m 18 #[.val (.ref a1), .val (.int (19 : Int32)), .val (.int (16 : Int32)), .val (.int (19 : Int32)), .val (.int (3 : Int32)), .unset] []) (fun T A t k => XS.istore A B.x rfl (B.d d20_16) rfl (l' := #[.val (.ref a1), .val (.int (19 : Int32)), .val (.int (16 : Int32)), .val (.int (19 : Int32)), .val (.int (3 : Int32)), .unset]) rfl k) ?_
  refine gs (mkF m 19 _ [(.int (16 : Int32))]) (fun T A t k => XS.iloadN A B.x rfl (B.d d20_18) rfl k) ?_
  refine gs (mkF m 21 _ [(.int (3 : Int32)), (.int (16 : Int32))]) (fun T A t k => XS.iload A B.x rfl (B.d d20_19) rfl k) ?_
  refine gs (mkF m 22 _ [(.int (16 : Int32)), (.int (3 : Int32)), (.int (16 : Int32))]) (fun T A t k => XS.iloadN A B.x rfl (B.d d20_21) rfl k) ?_
  refine gs (mkF m 23 _ [(.int (2 : Int32)), (.int (16 : Int32)), (.int (3 : Int32)), (.int (16 : Int32))]) (fun T A t k => XS.iconst A B.x rfl (B.d d20_22) k) ?_
  refine gs (mkF m 24 _ [(.ref a1), (.int (2 : Int32)), (.int (16 : Int32)), (.int (3 : Int32)), (.int (16 : Int32))]) (fun T A t k => XS.aloadN A B.x rfl (B.d d20_23) rfl rfl k) ?_
  refine g_getF B (hw _ (List.mem_of_getElem? (i := 73) rfl)) Via.refl BC d20_24 (q := 27) rfl ?_
  refine gs (mkF m 28 _ [(.int (2 : Int32)), (.int (16 : Int32)), (.int (3 : Int32)), (.int (16 : Int32))]) (fun T A t k => XS.ishl A B.x rfl (B.d d20_27) rfl k) ?_
  refine gs (mkF m 29 _ [(.int (18 : Int32)), (.int (3 : Int32)), (.int (16 : Int32))]) (fun T A t k => XS.iadd A B.x rfl (B.d d20_28) rfl k) ?_
  refine g_metN (c_static B (hw _ (List.mem_of_getElem? (i := 132) rfl)) (hw _ (List.mem_of_getElem? (i := 133) rfl)) (hw _ (List.mem_of_getElem? (i := 134) rfl)) (hw _ (List.mem_of_getElem? (i := 135) rfl)) (by decide) rfl (lenOf pd_28III29I rfl) rfl (Nat.le_of_eq rfl) d20_29 rfl (argsL := [(.int (16 : Int32)), (.int (3 : Int32)), (.int (18 : Int32))]) (rest := []) (W := 0) (q := 32)) (n_nlen_16_3_18 l Z a0 hw hEL  h0 n0) (hw _ (List.mem_of_getElem? (i := 135) rfl)) (hw _ (List.mem_of_getElem? (i := 134) rfl)) (by decide) (by decide) (by decide) (by decide) ?_
  intro v21 h21 hz21 hQ21
  obtain ⟨rfl, rfl⟩ := hQ21
  refine gs (mkF m 34 #[.val (.ref a1), .val (.int (19 : Int32)), .val (.int (16 : Int32)), .val (.int (19 : Int32)), .val (.int (3 : Int32)), .val (.int (34 : Int32))] []) (fun T A t k => XS.istore A B.x rfl (B.d d20_32) rfl (l' := #[.val (.ref a1), .val (.int (19 : Int32)), .val (.int (16 : Int32)), .val (.int (19 : Int32)), .val (.int (3 : Int32)), .val (.int (34 : Int32))]) rfl k) ?_
  refine gs (mkF m 36 _ [(.int (34 : Int32))]) (fun T A t k => XS.iload A B.x rfl (B.d d20_34) rfl k) ?_
  refine g_ldcI B (hw _ (List.mem_of_getElem? (i := 141) rfl)) d20_36 (q := 38) rfl ?_
  refine gs (mkF m 51 _ []) (fun T A t k => XS.icmpYes A B.x rfl (pc0 := 38) (pc' := 51) rfl (B.d d20_38) rfl (feq (by decide : ¬ ((34 : Int32) = (2147483647 : Int32)))).2 (by decide) (by decide) k) ?_
  refine gs (mkF m 53 _ [(.int (34 : Int32))]) (fun T A t k => XS.iload A B.x rfl (B.d d20_51) rfl k) ?_
  refine gs (mkF m 54 _ [(.ref a1), (.int (34 : Int32))]) (fun T A t k => XS.aloadN A B.x rfl (B.d d20_53) rfl rfl k) ?_
  refine g_getF B (hw _ (List.mem_of_getElem? (i := 73) rfl)) Via.refl BC d20_54 (q := 57) rfl ?_
  refine gs (mkF m 58 _ [(.int (34 : Int32))]) (fun T A t k => XS.ishr A B.x rfl (B.d d20_57) rfl k) ?_
  exact g_retI B d20_58 (by decide) (by decide) ⟨rfl, rfl⟩
theorem pd_28I29I : parseMethodDescriptor "(I)I" = some ⟨[.int], some .int⟩ := by decide +kernel
theorem d16_24 : decode jdk_68_method_9_code 24 = .ok (.invokevirtual 104, 3) := by decide +kernel
theorem d16_27 : decode jdk_68_method_9_code 27 = .ok (.aload_n 0, 1) := by decide +kernel
theorem d16_28 : decode jdk_68_method_9_code 28 = .ok (.getfield 22, 3) := by decide +kernel
theorem d16_31 : decode jdk_68_method_9_code 31 = .ok (.ishl, 1) := by decide +kernel
theorem pn_java_util_Arrays : plainName "java/util/Arrays" = true := by first | (simp [plainName, overriddenIn]; done) | decide +kernel
theorem d23_0 : decode jdk_65_method_121_code 0 = .ok (.iload_n 1, 1) := by decide +kernel
theorem d23_1 : decode jdk_65_method_121_code 1 = .ok (.aload_n 0, 1) := by decide +kernel
theorem d23_2 : decode jdk_65_method_121_code 2 = .ok (.arraylength, 1) := by decide +kernel
theorem d23_3 : decode jdk_65_method_121_code 3 = .ok (.if_icmp .ne 11, 3) := by decide +kernel
theorem d23_14 : decode jdk_65_method_121_code 14 = .ok (.iload_n 1, 1) := by decide +kernel
theorem d23_15 : decode jdk_65_method_121_code 15 = .ok (.newarray .byte, 2) := by decide +kernel
theorem d23_17 : decode jdk_65_method_121_code 17 = .ok (.astore_n 2, 1) := by decide +kernel
theorem d23_18 : decode jdk_65_method_121_code 18 = .ok (.aload_n 0, 1) := by decide +kernel
theorem d23_19 : decode jdk_65_method_121_code 19 = .ok (.iconst 0, 1) := by decide +kernel
theorem d23_20 : decode jdk_65_method_121_code 20 = .ok (.aload_n 2, 1) := by decide +kernel
theorem d23_21 : decode jdk_65_method_121_code 21 = .ok (.iconst 0, 1) := by decide +kernel
theorem d23_22 : decode jdk_65_method_121_code 22 = .ok (.aload_n 0, 1) := by decide +kernel
theorem d23_23 : decode jdk_65_method_121_code 23 = .ok (.arraylength, 1) := by decide +kernel
theorem d23_24 : decode jdk_65_method_121_code 24 = .ok (.iload_n 1, 1) := by decide +kernel
theorem d24_0 : decode jdk_29_method_69_code 0 = .ok (.iload_n 0, 1) := by decide +kernel
theorem d24_1 : decode jdk_29_method_69_code 1 = .ok (.iload_n 1, 1) := by decide +kernel
theorem d24_2 : decode jdk_29_method_69_code 2 = .ok (.if_icmp .gt 7, 3) := by decide +kernel
theorem d24_5 : decode jdk_29_method_69_code 5 = .ok (.iload_n 0, 1) := by decide +kernel
theorem d24_6 : decode jdk_29_method_69_code 6 = .ok (.goto 4, 3) := by decide +kernel
theorem d24_10 : decode jdk_29_method_69_code 10 = .ok (.ireturn, 1) := by decide +kernel
set_option maxRecDepth 65536 in
set_option maxHeartbeats 40000000 in
theorem n_min_16_34 (l : Launch) (Z : State) (a0 : Array Value) (hw : ∀ d ∈ tables_1, d.before a0 Z = true) (hEL : EW Z a0 [])   (h0 : Heap) (n0 : Nat)  :
    Met false Z [] l (⟨"java/lang/Math", "min", "(II)I"⟩ : MethodName) jdk_29_method_69_code 2 (some .int) ({ frames := 0, cells := 0, slots := 0, locals := 0 } : Room) #[(.int (16 : Int32)), (.int (34 : Int32))] h0 [] n0 (fun v h => v = some (.int (16 : Int32)) ∧ h0 = h) := by
  refine Met.of (a0 := a0) (Ls := #[.val (.int (16 : Int32)), .val (.int (34 : Int32))]) (fun z => rfl) (Jvm.Free.JP.mathPlain rfl (by decide +kernel)) hEL (fun m => by first | (simp [entryFrame, mkF, argsToLocals, Value.category]; done) | rfl) ?_
  intro p e s m below meth c B hSf
  refine gs (mkF m 1 _ [(.int (16 : Int32))]) (fun T A t k => XS.iloadN A B.x rfl (B.d d24_0) rfl k) ?_
  refine gs (mkF m 2 _ [(.int (34 : Int32)), (.int (16 : Int32))]) (fun T A t k => XS.iloadN A B.x rfl (B.d d24_1) rfl k) ?_
  refine gs (mkF m 5 _ []) (fun T A t k => XS.icmpNo A B.x rfl (B.d d24_2) rfl (flt (by decide : ¬ ((34 : Int32) < (16 : Int32)))).2.2.1 k) ?_
  refine gs (mkF m 6 _ [(.int (16 : Int32))]) (fun T A t k => XS.iloadN A B.x rfl (B.d d24_5) rfl k) ?_
  refine gs (mkF m 10 _ [(.int (16 : Int32))]) (fun T A t k => XS.goto A B.x rfl (pc0 := 6) (pc' := 10) rfl (B.d d24_6) (by decide) (by decide) k) ?_
  exact g_retI B d24_10 (by decide) (by decide) ⟨rfl, rfl⟩
theorem d23_25 : decode jdk_65_method_121_code 25 = .ok (.invokestatic 304, 3) := by decide +kernel
theorem d23_28 : decode jdk_65_method_121_code 28 = .ok (.invokestatic 150, 3) := by decide +kernel
theorem d23_31 : decode jdk_65_method_121_code 31 = .ok (.aload_n 2, 1) := by decide +kernel
theorem d23_32 : decode jdk_65_method_121_code 32 = .ok (.areturn, 1) := by decide +kernel
set_option maxRecDepth 65536 in
set_option maxHeartbeats 40000000 in
theorem n_copyOf_16_34 (l : Launch) (Z : State) (a0 : Array Value) (hw : ∀ d ∈ tables_1, d.before a0 Z = true) (hEL : EW Z a0 []) (a1 : Addr) (kb : ClassId) (v0 v1 v2 v3 v4 v5 v6 v7 v8 v9 v10 v11 v12 v13 v14 v15 : Value) (h0 : Heap) (n0 : Nat) (PA : Arv Z h0 a1 kb .byte (16 : Int32) [v0, v1, v2, v3, v4, v5, v6, v7, v8, v9, v10, v11, v12, v13, v14, v15] (.int (0 : Int32))) (hn : @LE.le Nat _ n0 h0.size) :
    Met false Z [] l (⟨"java/util/Arrays", "copyOf", "([BI)[B"⟩ : MethodName) jdk_65_method_121_code 3 (some (.array .byte)) ({ frames := 1, cells := 1, slots := 34, locals := 18 } : Room) #[(.ref a1), (.int (34 : Int32))] h0 [] n0 (fun v h => ∃ (x : Addr) (kb' : ClassId), v = some (.ref x) ∧ Keep h0 h [] ∧ @LE.le Nat _ h0.size x ∧ Arv Z h x kb' .byte (34 : Int32) [v0, v1, v2, v3, v4, v5, v6, v7, v8, v9, v10, v11, v12, v13, v14, v15, (.int (0 : Int32)), (.int (0 : Int32)), (.int (0 : Int32)), (.int (0 : Int32)), (.int (0 : Int32)), (.int (0 : Int32)), (.int (0 : Int32)), (.int (0 : Int32)), (.int (0 : Int32)), (.int (0 : Int32)), (.int (0 : Int32)), (.int (0 : Int32)), (.int (0 : Int32)), (.int (0 : Int32)), (.int (0 : Int32)), (.int (0 : Int32)), (.int (0 : Int32)), (.int (0 : Int32))] (.int (0 : Int32))) := by
  refine Met.of (a0 := a0) (Ls := #[.val (.ref a1), .val (.int (34 : Int32)), .unset]) (fun z => rfl) (plainFor_of_name pn_java_util_Arrays) hEL (fun m => by first | (simp [entryFrame, mkF, argsToLocals, Value.category]; done) | rfl) ?_
  intro p e s m below meth c B hSf
  have hlt1 : @LT.lt Nat _ a1 h0.size := PA.lt
  refine gs (mkF m 1 _ [(.int (34 : Int32))]) (fun T A t k => XS.iloadN A B.x rfl (B.d d23_0) rfl k) ?_
  refine gs (mkF m 2 _ [(.ref a1), (.int (34 : Int32))]) (fun T A t k => XS.aloadN A B.x rfl (B.d d23_1) rfl rfl k) ?_
  refine g_len B PA d23_2 (q := 3) rfl ?_
  refine gs (mkF m 14 _ []) (fun T A t k => XS.icmpYes A B.x rfl (pc0 := 3) (pc' := 14) rfl (B.d d23_3) rfl (feq (by decide : ¬ ((34 : Int32) = (16 : Int32)))).2 (by decide) (by decide) k) ?_
  refine gs (mkF m 15 _ [(.int (34 : Int32))]) (fun T A t k => XS.iloadN A B.x rfl (B.d d23_14) rfl k) ?_
  refine g_newP B (hw _ (List.mem_of_getElem? (i := 20) rfl)) d23_15 (by decide) (cap := 34) (by decide) (by decide) (by decide) (by decide) (q := 17) rfl ?_
  intro h21 b21 k21 g21 E21 S21 A21
  have z21 := E21.1; have y21 : @LT.lt Nat _ b21 h21.size := A21.lt
  have V21 : Arv Z h21 b21 k21 .byte (34 : Int32) [(.int (0 : Int32)), (.int (0 : Int32)), (.int (0 : Int32)), (.int (0 : Int32)), (.int (0 : Int32)), (.int (0 : Int32)), (.int (0 : Int32)), (.int (0 : Int32)), (.int (0 : Int32)), (.int (0 : Int32)), (.int (0 : Int32)), (.int (0 : Int32)), (.int (0 : Int32)), (.int (0 : Int32)), (.int (0 : Int32)), (.int (0 : Int32)), (.int (0 : Int32)), (.int (0 : Int32)), (.int (0 : Int32)), (.int (0 : Int32)), (.int (0 : Int32)), (.int (0 : Int32)), (.int (0 : Int32)), (.int (0 : Int32)), (.int (0 : Int32)), (.int (0 : Int32)), (.int (0 : Int32)), (.int (0 : Int32)), (.int (0 : Int32)), (.int (0 : Int32)), (.int (0 : Int32)), (.int (0 : Int32)), (.int (0 : Int32)), (.int (0 : Int32))] (.int (0 : Int32)) := A21
  refine gs (mkF m 18 #[.val (.ref a1), .val (.int (34 : Int32)), .val (.ref b21)] []) (fun T A t k => XS.astoreN A B.x rfl (B.d d23_17) rfl rfl (l' := #[.val (.ref a1), .val (.int (34 : Int32)), .val (.ref b21)]) rfl k) ?_
  refine gs (mkF m 19 _ [(.ref a1)]) (fun T A t k => XS.aloadN A B.x rfl (B.d d23_18) rfl rfl k) ?_
  refine gs (mkF m 20 _ [(.int (0 : Int32)), (.ref a1)]) (fun T A t k => XS.iconst A B.x rfl (B.d d23_19) k) ?_
  refine gs (mkF m 21 _ [(.ref b21), (.int (0 : Int32)), (.ref a1)]) (fun T A t k => XS.aloadN A B.x rfl (B.d d23_20) rfl rfl k) ?_
  refine gs (mkF m 22 _ [(.int (0 : Int32)), (.ref b21), (.int (0 : Int32)), (.ref a1)]) (fun T A t k => XS.iconst A B.x rfl (B.d d23_21) k) ?_
  refine gs (mkF m 23 _ [(.ref a1), (.int (0 : Int32)), (.ref b21), (.int (0 : Int32)), (.ref a1)]) (fun T A t k => XS.aloadN A B.x rfl (B.d d23_22) rfl rfl k) ?_
  refine g_len B (PA.ext E21) d23_23 (q := 24) rfl ?_
  refine gs (mkF m 25 _ [(.int (34 : Int32)), (.int (16 : Int32)), (.int (0 : Int32)), (.ref b21), (.int (0 : Int32)), (.ref a1)]) (fun T A t k => XS.iloadN A B.x rfl (B.d d23_24) rfl k) ?_
  refine g_metN (c_static B (hw _ (List.mem_of_getElem? (i := 146) rfl)) (hw _ (List.mem_of_getElem? (i := 147) rfl)) (hw _ (List.mem_of_getElem? (i := 138) rfl)) (hw _ (List.mem_of_getElem? (i := 148) rfl)) (by decide) rfl (lenOf pd_28II29I rfl) rfl (Nat.le_of_eq rfl) d23_25 rfl (argsL := [(.int (16 : Int32)), (.int (34 : Int32))]) (rest := [(.int (0 : Int32)), (.ref b21), (.int (0 : Int32)), (.ref a1)]) (W := 4) (q := 28)) (n_min_16_34 l Z a0 hw hEL  h21 n0) (hw _ (List.mem_of_getElem? (i := 148) rfl)) (hw _ (List.mem_of_getElem? (i := 138) rfl)) (by decide) (by decide) (by decide) (by decide) ?_
  intro v22 h22 hz22 hQ22
  obtain ⟨rfl, rfl⟩ := hQ22
  refine g_cp (us := [v0, v1, v2, v3, v4, v5, v6, v7, v8, v9, v10, v11, v12, v13, v14, v15]) (vr := [v0, v1, v2, v3, v4, v5, v6, v7, v8, v9, v10, v11, v12, v13, v14, v15, (.int (0 : Int32)), (.int (0 : Int32)), (.int (0 : Int32)), (.int (0 : Int32)), (.int (0 : Int32)), (.int (0 : Int32)), (.int (0 : Int32)), (.int (0 : Int32)), (.int (0 : Int32)), (.int (0 : Int32)), (.int (0 : Int32)), (.int (0 : Int32)), (.int (0 : Int32)), (.int (0 : Int32)), (.int (0 : Int32)), (.int (0 : Int32)), (.int (0 : Int32)), (.int (0 : Int32))]) (W := 0) B (hw _ (List.mem_of_getElem? (i := 149) rfl)) (hw _ (List.mem_of_getElem? (i := 124) rfl)) (hw _ (List.mem_of_getElem? (i := 122) rfl)) (hw _ (List.mem_of_getElem? (i := 123) rfl)) (PA.ext E21) V21 (Or.inl ⟨rfl, rfl⟩) (by decide) (by decide) (by decide) (by decide) (by decide) rfl (Nat.le_of_ble_eq_true rfl) rfl rfl d23_28 (by decide) (Nat.le_of_eq rfl) (by decide) nos (by omega) (q := 31) rfl ?_
  intro h23 K23 V23
  have z23 := K23.1
  refine gs (mkF m 32 _ [(.ref b21)]) (fun T A t k => XS.aloadN A B.x rfl (B.d d23_31) rfl rfl k) ?_
  exact g_retA B rfl rfl d23_32 (by decide) (by decide) ⟨_, _, rfl, (((Keep.refl h0 []).ext E21).trans K23 (allS (Or.inr (by omega)) all0)), (by omega), V23⟩
theorem pd_285bBI295bB : parseMethodDescriptor "([BI)[B" = some ⟨[(.array .byte), .int], some (.array .byte)⟩ := by decide +kernel
theorem d16_32 : decode jdk_68_method_9_code 32 = .ok (.invokestatic 108, 3) := by decide +kernel
theorem d16_35 : decode jdk_68_method_9_code 35 = .ok (.putfield 15, 3) := by decide +kernel
set_option maxRecDepth 65536 in
set_option maxHeartbeats 40000000 in
theorem n_eci_16_19 (l : Launch) (Z : State) (a0 : Array Value) (hw : ∀ d ∈ tables_1, d.before a0 Z = true) (hEL : EW Z a0 []) (a1 : Addr) (zc : Int32) (rv : Value) (tb : Addr) (kb : ClassId) (v0 v1 v2 v3 v4 v5 v6 v7 v8 v9 v10 v11 v12 v13 v14 v15 : Value) (kk : Int32) (h0 : Heap) (n0 : Nat) (PB : SBN Z h0 a1 tb kb (16 : Int32) kk [v0, v1, v2, v3, v4, v5, v6, v7, v8, v9, v10, v11, v12, v13, v14, v15]) (hn : @LE.le Nat _ n0 h0.size) (hd : @LE.le Nat _ n0 a1) (PX : Sts Z zc rv) (PO : Old Z n0 h0) :
    Met false Z [] l (⟨"java/lang/AbstractStringBuilder", "ensureCapacityInternal", "(I)V"⟩ : MethodName) jdk_68_method_9_code 3 none ({ frames := 3, cells := 1, slots := 34, locals := 48 } : Room) #[(.ref a1), (.int (19 : Int32))] h0 [] n0 (fun v h => v = none ∧ Keep h0 h [a1] ∧ ∃ (t' : Addr) (k' : ClassId), @LE.le Nat _ h0.size t' ∧ SBN Z h a1 t' k' (34 : Int32) kk [v0, v1, v2, v3, v4, v5, v6, v7, v8, v9, v10, v11, v12, v13, v14, v15, (.int (0 : Int32)), (.int (0 : Int32)), (.int (0 : Int32)), (.int (0 : Int32)), (.int (0 : Int32)), (.int (0 : Int32)), (.int (0 : Int32)), (.int (0 : Int32)), (.int (0 : Int32)), (.int (0 : Int32)), (.int (0 : Int32)), (.int (0 : Int32)), (.int (0 : Int32)), (.int (0 : Int32)), (.int (0 : Int32)), (.int (0 : Int32)), (.int (0 : Int32)), (.int (0 : Int32))]) := by
  refine Met.of (a0 := a0) (Ls := #[.val (.ref a1), .val (.int (19 : Int32)), .unset]) (fun z => rfl) (plainFor_of_name pn_java_lang_AbstractStringBuilder) hEL (fun m => by first | (simp [entryFrame, mkF, argsToLocals, Value.category]; done) | rfl) ?_
  intro p e s m below meth c B hSf
  obtain ⟨SC, hzc, SF, rf⟩ := id PX
  obtain ⟨BE, BV, BC, BN, BA⟩ := id PB
  have hlt1 : @LT.lt Nat _ a1 h0.size := BE.lt
  refine gs (mkF m 1 _ [(.ref a1)]) (fun T A t k => XS.aloadN A B.x rfl (B.d d16_0) rfl rfl k) ?_
  refine g_getF B (hw _ (List.mem_of_getElem? (i := 71) rfl)) Via.refl BV d16_1 (q := 4) rfl ?_
  refine g_len B BA d16_4 (q := 5) rfl ?_
  refine gs (mkF m 6 _ [(.ref a1), (.int (16 : Int32))]) (fun T A t k => XS.aloadN A B.x rfl (B.d d16_5) rfl rfl k) ?_
  refine g_getF B (hw _ (List.mem_of_getElem? (i := 73) rfl)) Via.refl BC d16_6 (q := 9) rfl ?_
  refine gs (mkF m 10 _ [(.int (16 : Int32))]) (fun T A t k => XS.ishr A B.x rfl (B.d d16_9) rfl k) ?_
  refine gs (mkF m 11 #[.val (.ref a1), .val (.int (19 : Int32)), .val (.int (16 : Int32))] []) (fun T A t k => XS.istoreN A B.x rfl (B.d d16_10) rfl (l' := #[.val (.ref a1), .val (.int (19 : Int32)), .val (.int (16 : Int32))]) rfl k) ?_
  refine gs (mkF m 12 _ [(.int (19 : Int32))]) (fun T A t k => XS.iloadN A B.x rfl (B.d d16_11) rfl k) ?_
  refine gs (mkF m 13 _ [(.int (16 : Int32)), (.int (19 : Int32))]) (fun T A t k => XS.iloadN A B.x rfl (B.d d16_12) rfl k) ?_
  refine gs (mkF m 14 _ [(.int (3 : Int32))]) (fun T A t k => XS.isub A B.x rfl (B.d d16_13) rfl k) ?_
  refine gs (mkF m 17 _ []) (fun T A t k => XS.ifNo A B.x rfl (B.d d16_14) rfl ((if0 _ _).trans (tlt (by decide : (0 : Int32) < (3 : Int32))).2.2.2) k) ?_
  refine gs (mkF m 18 _ [(.ref a1)]) (fun T A t k => XS.aloadN A B.x rfl (B.d d16_17) rfl rfl k) ?_
  refine gs (mkF m 19 _ [(.ref a1), (.ref a1)]) (fun T A t k => XS.aloadN A B.x rfl (B.d d16_18) rfl rfl k) ?_
  refine g_getF B (hw _ (List.mem_of_getElem? (i := 71) rfl)) Via.refl BV d16_19 (q := 22) rfl ?_
  refine gs (mkF m 23 _ [(.ref a1), (.ref tb), (.ref a1)]) (fun T A t k => XS.aloadN A B.x rfl (B.d d16_22) rfl rfl k) ?_
  refine gs (mkF m 24 _ [(.int (19 : Int32)), (.ref a1), (.ref tb), (.ref a1)]) (fun T A t k => XS.iloadN A B.x rfl (B.d d16_23) rfl k) ?_
  refine g_metN (c_priv B BE (hw _ (List.mem_of_getElem? (i := 127) rfl)) (hw _ (List.mem_of_getElem? (i := 128) rfl)) (hw _ (List.mem_of_getElem? (i := 129) rfl)) (hw _ (List.mem_of_getElem? (i := 131) rfl)) (z := (⟨"java/lang/AbstractStringBuilder", "ensureCapacityInternal", "(I)V"⟩ : MethodName)) (hw _ (List.mem_of_getElem? (i := 103) rfl)) rfl (by decide) rfl (lenOf pd_28I29I rfl) rfl (Nat.le_of_eq rfl) d16_24 rfl (argsL := [(.int (19 : Int32))]) (rest := [(.ref tb), (.ref a1)]) (W := 2) (q := 27)) (n_sb_newCapacity_False_16_19 l Z a0 hw hEL a1 zc rv tb kb v0 v1 v2 v3 v4 v5 v6 v7 v8 v9 v10 v11 v12 v13 v14 v15 kk h0 n0 ⟨BE, BV, BC, BN, BA⟩ PX PO) (hw _ (List.mem_of_getElem? (i := 131) rfl)) (hw _ (List.mem_of_getElem? (i := 67) rfl)) (by decide) (by decide) (by decide) (by decide) ?_
  intro v21 h21 hz21 hQ21
  obtain ⟨rfl, rfl⟩ := hQ21
  refine gs (mkF m 28 _ [(.ref a1), (.int (34 : Int32)), (.ref tb), (.ref a1)]) (fun T A t k => XS.aloadN A B.x rfl (B.d d16_27) rfl rfl k) ?_
  refine g_getF B (hw _ (List.mem_of_getElem? (i := 73) rfl)) Via.refl BC d16_28 (q := 31) rfl ?_
  refine gs (mkF m 32 _ [(.int (34 : Int32)), (.ref tb), (.ref a1)]) (fun T A t k => XS.ishl A B.x rfl (B.d d16_31) rfl k) ?_
  refine g_metN (c_static B (hw _ (List.mem_of_getElem? (i := 142) rfl)) (hw _ (List.mem_of_getElem? (i := 143) rfl)) (hw _ (List.mem_of_getElem? (i := 144) rfl)) (hw _ (List.mem_of_getElem? (i := 145) rfl)) (by decide) rfl (lenOf pd_285bBI295bB rfl) rfl (Nat.le_of_eq rfl) d16_32 rfl (argsL := [(.ref tb), (.int (34 : Int32))]) (rest := [(.ref a1)]) (W := 1) (q := 35)) (n_copyOf_16_34 l Z a0 hw hEL tb kb v0 v1 v2 v3 v4 v5 v6 v7 v8 v9 v10 v11 v12 v13 v14 v15 h0 n0 BA (by omega)) (hw _ (List.mem_of_getElem? (i := 145) rfl)) (hw _ (List.mem_of_getElem? (i := 144) rfl)) (by decide) (by decide) (by decide) (by decide) ?_
  intro v22 h22 hz22 hQ22
  obtain ⟨x22, k22, rfl, K22, g22, V22⟩ := hQ22
  have z22 := K22.1; have y22 : @LT.lt Nat _ x22 h22.size := V22.lt
  refine g_putF B (hw _ (List.mem_of_getElem? (i := 71) rfl)) Via.refl (BV.keep K22 nin0) (BE.keep K22) (Or.inl (hw _ (List.mem_of_getElem? (i := 72) rfl))) (hw _ (List.mem_of_getElem? (i := 58) rfl)) (ty := (.array .byte)) (by decide) rfl rfl d16_35 nos (by omega) (q := 38) rfl ?_
  intro h23 W23 F23
  have z23 := W23.size
  exact g_ret0 B d16_38 (by decide) (by decide) ⟨rfl, (((Keep.refl h0 [a1]).trans K22 all0).wr W23 (Or.inl (by simp))), _, _, (by omega), ⟨((BE.keep K22).wr W23), F23, ((BC.keep K22 nin0).other W23 (Or.inr (slot_ne (Or.inl (hw _ (List.mem_of_getElem? (i := 74) rfl))) (Or.inl (hw _ (List.mem_of_getElem? (i := 72) rfl))) (by decide) (t := .byte) (t' := (.array .byte)) (by decide) (by decide)))), ((BN.keep K22 nin0).other W23 (Or.inr (slot_ne (Or.inl (hw _ (List.mem_of_getElem? (i := 99) rfl))) (Or.inl (hw _ (List.mem_of_getElem? (i := 72) rfl))) (by decide) (t := .int) (t' := (.array .byte)) (by decide) (by decide)))), (V22.other W23 (by omega : @Ne Nat x22 a1))⟩⟩
set_option maxRecDepth 65536 in
set_option maxHeartbeats 40000000 in
theorem n_infl_34 (l : Launch) (Z : State) (a0 : Array Value) (hw : ∀ d ∈ tables_1, d.before a0 Z = true) (hEL : EW Z a0 []) (a1 : Addr) (a2 : Addr) (zc : Int32) (rv : Value) (tb : Addr) (kb : ClassId) (v0 v1 v2 v3 v4 v5 v6 v7 v8 v9 v10 v11 v12 v13 v14 v15 v16 v17 v18 v19 v20 v21 v22 v23 v24 v25 v26 v27 v28 v29 v30 v31 v32 v33 : Value) (kk : Int32) (h0 : Heap) (n0 : Nat) (PB : SBN Z h0 a1 tb kb (34 : Int32) kk [v0, v1, v2, v3, v4, v5, v6, v7, v8, v9, v10, v11, v12, v13, v14, v15, v16, v17, v18, v19, v20, v21, v22, v23, v24, v25, v26, v27, v28, v29, v30, v31, v32, v33]) (PE2 : Exa Z h0 a2 "java/lang/String") (PC2 : Fld Z h0 a2 "java/lang/String" "coder" "B" (.int (0 : Int32))) (PX : Sts Z zc rv) (PO : Old Z n0 h0) :
    Met false Z [] l (⟨"java/lang/AbstractStringBuilder", "inflateIfNeededFor", "(Ljava/lang/String;)V"⟩ : MethodName) jdk_68_method_71_code 2 none ({ frames := 1, cells := 0, slots := 0, locals := 13 } : Room) #[(.ref a1), (.ref a2)] h0 [] n0 (fun v h => v = none ∧ h0 = h) := by
  refine Met.of (a0 := a0) (Ls := #[.val (.ref a1), .val (.ref a2)]) (fun z => rfl) (plainFor_of_name pn_java_lang_AbstractStringBuilder) hEL (fun m => by first | (simp [entryFrame, mkF, argsToLocals, Value.category]; done) | rfl) ?_
  intro p e s m below meth c B hSf
  obtain ⟨SC, hzc, SF, rf⟩ := id PX
  obtain ⟨BE, BV, BC, BN, BA⟩ := id PB
  refine g_getS B (hw _ (List.mem_of_getElem? (i := 70) rfl)) (SC.ext PO.2) d18_0 (q := 3) rfl ?_
  refine gs (mkF m 6 _ []) (fun T A t k => XS.ifNo A B.x rfl (B.d d18_3) rfl ((if0 _ _).trans (feq (hzc : ¬ (zc = (0 : Int32)))).1) k) ?_
  refine gs (mkF m 7 _ [(.ref a1)]) (fun T A t k => XS.aloadN A B.x rfl (B.d d18_6) rfl rfl k) ?_
  refine g_getF B (hw _ (List.mem_of_getElem? (i := 73) rfl)) Via.refl BC d18_7 (q := 10) rfl ?_
  refine gs (mkF m 11 _ [(.ref a2), (.int (0 : Int32))]) (fun T A t k => XS.aloadN A B.x rfl (B.d d18_10) rfl rfl k) ?_
  refine g_metN (c_virt B PE2 (hw _ (List.mem_of_getElem? (i := 115) rfl)) (hw _ (List.mem_of_getElem? (i := 94) rfl)) (hw _ (List.mem_of_getElem? (i := 96) rfl)) (hw _ (List.mem_of_getElem? (i := 95) rfl)) (nfs (z := (⟨"java/lang/String", "coder", "()B"⟩ : MethodName)) (hw _ (List.mem_of_getElem? (i := 96) rfl))) (by decide) rfl (lenOf pd_2829B rfl) rfl (Nat.le_of_eq rfl) d18_11 rfl (argsL := []) (rest := [(.int (0 : Int32))]) (W := 1) (q := 14)) (n_coder_0 l Z a0 hw hEL a2 zc rv h0 n0 PE2 PC2 PX PO) (hw _ (List.mem_of_getElem? (i := 97) rfl)) (hw _ (List.mem_of_getElem? (i := 4) rfl)) (by decide) (by decide) (by decide) (by decide) ?_
  intro v21 h21 hz21 hQ21
  obtain ⟨rfl, rfl⟩ := hQ21
  refine gs (mkF m 21 _ []) (fun T A t k => XS.icmpYes A B.x rfl (pc0 := 14) (pc' := 21) rfl (B.d d18_14) rfl (teq (by decide : (0 : Int32) = (0 : Int32))).1 (by decide) (by decide) k) ?_
  exact g_ret0 B d18_21 (by decide) (by decide) ⟨rfl, rfl⟩
set_option maxRecDepth 65536 in
set_option maxHeartbeats 40000000 in
theorem n_gby_34_16_3 (l : Launch) (Z : State) (a0 : Array Value) (hw : ∀ d ∈ tables_1, d.before a0 Z = true) (hEL : EW Z a0 []) (a1 : Addr) (a2 : Addr) (zc : Int32) (rv : Value) (t2 : Addr) (k2 kb : ClassId) (v0 v1 v2 v3 v4 v5 v6 v7 v8 v9 v10 v11 v12 v13 v14 v15 v16 v17 v18 v19 v20 v21 v22 v23 v24 v25 v26 v27 v28 v29 v30 v31 v32 v33 u0 u1 u2 : Value) (h0 : Heap) (n0 : Nat) (PE2 : Exa Z h0 a1 "java/lang/String") (PC2 : Fld Z h0 a1 "java/lang/String" "coder" "B" (.int (0 : Int32))) (PV2 : Fld Z h0 a1 "java/lang/String" "value" "[B" (.ref t2)) (PA2 : Arv Z h0 t2 k2 .byte (3 : Int32) [u0, u1, u2] (.int (0 : Int32))) (PD : Arv Z h0 a2 kb .byte (34 : Int32) [v0, v1, v2, v3, v4, v5, v6, v7, v8, v9, v10, v11, v12, v13, v14, v15, v16, v17, v18, v19, v20, v21, v22, v23, v24, v25, v26, v27, v28, v29, v30, v31, v32, v33] (.int (0 : Int32))) (hd : @LE.le Nat _ n0 a2) (PX : Sts Z zc rv) (PO : Old Z n0 h0) :
    Met false Z [] l (⟨"java/lang/String", "getBytes", "([BIB)V"⟩ : MethodName) jdk_42_method_147_code 4 none ({ frames := 1, cells := 0, slots := 0, locals := 18 } : Room) #[(.ref a1), (.ref a2), (.int (16 : Int32)), (.int (0 : Int32))] h0 [] n0 (fun v h => v = none ∧ Keep h0 h [a2] ∧ Arv Z h a2 kb .byte (34 : Int32) [v0, v1, v2, v3, v4, v5, v6, v7, v8, v9, v10, v11, v12, v13, v14, v15, u0, u1, u2, v19, v20, v21, v22, v23, v24, v25, v26, v27, v28, v29, v30, v31, v32, v33] (.int (0 : Int32))) := by
  refine Met.of (a0 := a0) (Ls := #[.val (.ref a1), .val (.ref a2), .val (.int (16 : Int32)), .val (.int (0 : Int32))]) (fun z => rfl) (plainFor_of_name pn_java_lang_String) hEL (fun m => by first | (simp [entryFrame, mkF, argsToLocals, Value.category]; done) | rfl) ?_
  intro p e s m below meth c B hSf
  obtain ⟨SC, hzc, SF, rf⟩ := id PX
  refine gs (mkF m 1 _ [(.ref a1)]) (fun T A t k => XS.aloadN A B.x rfl (B.d d19_0) rfl rfl k) ?_
  refine g_metN (c_virt B PE2 (hw _ (List.mem_of_getElem? (i := 93) rfl)) (hw _ (List.mem_of_getElem? (i := 94) rfl)) (hw _ (List.mem_of_getElem? (i := 96) rfl)) (hw _ (List.mem_of_getElem? (i := 95) rfl)) (nfs (z := (⟨"java/lang/String", "coder", "()B"⟩ : MethodName)) (hw _ (List.mem_of_getElem? (i := 96) rfl))) (by decide) rfl (lenOf pd_2829B rfl) rfl (Nat.le_of_eq rfl) d19_1 rfl (argsL := []) (rest := []) (W := 0) (q := 4)) (n_coder_0 l Z a0 hw hEL a1 zc rv h0 n0 PE2 PC2 PX PO) (hw _ (List.mem_of_getElem? (i := 97) rfl)) (hw _ (List.mem_of_getElem? (i := 4) rfl)) (by decide) (by decide) (by decide) (by decide) ?_
  intro v21 h21 hz21 hQ21
  obtain ⟨rfl, rfl⟩ := hQ21
  refine gs (mkF m 5 _ [(.int (0 : Int32)), (.int (0 : Int32))]) (fun T A t k => XS.iloadN A B.x rfl (B.d d19_4) rfl k) ?_
  refine gs (mkF m 8 _ []) (fun T A t k => XS.icmpNo A B.x rfl (B.d d19_5) rfl (teq (by decide : (0 : Int32) = (0 : Int32))).2 k) ?_
  refine gs (mkF m 9 _ [(.ref a1)]) (fun T A t k => XS.aloadN A B.x rfl (B.d d19_8) rfl rfl k) ?_
  refine g_getF B (hw _ (List.mem_of_getElem? (i := 29) rfl)) Via.refl PV2 d19_9 (q := 12) rfl ?_
  refine gs (mkF m 13 _ [(.int (0 : Int32)), (.ref t2)]) (fun T A t k => XS.iconst A B.x rfl (B.d d19_12) k) ?_
  refine gs (mkF m 14 _ [(.ref a2), (.int (0 : Int32)), (.ref t2)]) (fun T A t k => XS.aloadN A B.x rfl (B.d d19_13) rfl rfl k) ?_
  refine gs (mkF m 15 _ [(.int (16 : Int32)), (.ref a2), (.int (0 : Int32)), (.ref t2)]) (fun T A t k => XS.iloadN A B.x rfl (B.d d19_14) rfl k) ?_
  refine gs (mkF m 16 _ [(.int (0 : Int32)), (.int (16 : Int32)), (.ref a2), (.int (0 : Int32)), (.ref t2)]) (fun T A t k => XS.iloadN A B.x rfl (B.d d19_15) rfl k) ?_
  refine gs (mkF m 17 _ [(.int (16 : Int32)), (.ref a2), (.int (0 : Int32)), (.ref t2)]) (fun T A t k => XS.ishl A B.x rfl (B.d d19_16) rfl k) ?_
  refine gs (mkF m 18 _ [(.ref a1), (.int (16 : Int32)), (.ref a2), (.int (0 : Int32)), (.ref t2)]) (fun T A t k => XS.aloadN A B.x rfl (B.d d19_17) rfl rfl k) ?_
  refine g_getF B (hw _ (List.mem_of_getElem? (i := 29) rfl)) Via.refl PV2 d19_18 (q := 21) rfl ?_
  refine g_len B PA2 d19_21 (q := 22) rfl ?_
  refine g_cp (us := [u0, u1, u2]) (vr := [v0, v1, v2, v3, v4, v5, v6, v7, v8, v9, v10, v11, v12, v13, v14, v15, u0, u1, u2, v19, v20, v21, v22, v23, v24, v25, v26, v27, v28, v29, v30, v31, v32, v33]) (W := 0) B (hw _ (List.mem_of_getElem? (i := 121) rfl)) (hw _ (List.mem_of_getElem? (i := 124) rfl)) (hw _ (List.mem_of_getElem? (i := 122) rfl)) (hw _ (List.mem_of_getElem? (i := 123) rfl)) PA2 PD (Or.inl ⟨rfl, rfl⟩) (by decide) (by decide) (by decide) (by decide) (by decide) rfl (Nat.le_of_ble_eq_true rfl) rfl rfl d19_22 (by decide) (Nat.le_of_eq rfl) (by decide) nos (by omega) (q := 25) rfl ?_
  intro h22 K22 V22
  have z22 := K22.1
  refine gs (mkF m 43 _ []) (fun T A t k => XS.goto A B.x rfl (pc0 := 25) (pc' := 43) rfl (B.d d19_25) (by decide) (by decide) k) ?_
  exact g_ret0 B d19_43 (by decide) (by decide) ⟨rfl, ((Keep.refl h0 [a2]).trans K22 (allS (Or.inl (by simp)) all0)), V22⟩
set_option maxRecDepth 65536 in
set_option maxHeartbeats 40000000 in
theorem n_psa_34_16_3 (l : Launch) (Z : State) (a0 : Array Value) (hw : ∀ d ∈ tables_1, d.before a0 Z = true) (hEL : EW Z a0 []) (a1 : Addr) (a2 : Addr) (zc : Int32) (rv : Value) (tb : Addr) (kb : ClassId) (v0 v1 v2 v3 v4 v5 v6 v7 v8 v9 v10 v11 v12 v13 v14 v15 v16 v17 v18 v19 v20 v21 v22 v23 v24 v25 v26 v27 v28 v29 v30 v31 v32 v33 : Value) (t2 : Addr) (k2 : ClassId) (u0 u1 u2 : Value) (kk : Int32) (h0 : Heap) (n0 : Nat) (PB : SBN Z h0 a1 tb kb (34 : Int32) kk [v0, v1, v2, v3, v4, v5, v6, v7, v8, v9, v10, v11, v12, v13, v14, v15, v16, v17, v18, v19, v20, v21, v22, v23, v24, v25, v26, v27, v28, v29, v30, v31, v32, v33]) (PE2 : Exa Z h0 a2 "java/lang/String") (PC2 : Fld Z h0 a2 "java/lang/String" "coder" "B" (.int (0 : Int32))) (PV2 : Fld Z h0 a2 "java/lang/String" "value" "[B" (.ref t2)) (PA2 : Arv Z h0 t2 k2 .byte (3 : Int32) [u0, u1, u2] (.int (0 : Int32))) (hd : @LE.le Nat _ n0 tb) (PX : Sts Z zc rv) (PO : Old Z n0 h0) :
    Met false Z [] l (⟨"java/lang/AbstractStringBuilder", "putStringAt", "(ILjava/lang/String;)V"⟩ : MethodName) jdk_68_method_73_code 3 none ({ frames := 2, cells := 0, slots := 0, locals := 33 } : Room) #[(.ref a1), (.int (16 : Int32)), (.ref a2)] h0 [] n0 (fun v h => v = none ∧ Keep h0 h [tb] ∧ Arv Z h tb kb .byte (34 : Int32) [v0, v1, v2, v3, v4, v5, v6, v7, v8, v9, v10, v11, v12, v13, v14, v15, u0, u1, u2, v19, v20, v21, v22, v23, v24, v25, v26, v27, v28, v29, v30, v31, v32, v33] (.int (0 : Int32))) := by
  refine Met.of (a0 := a0) (Ls := #[.val (.ref a1), .val (.int (16 : Int32)), .val (.ref a2)]) (fun z => rfl) (plainFor_of_name pn_java_lang_AbstractStringBuilder) hEL (fun m => by first | (simp [entryFrame, mkF, argsToLocals, Value.category]; done) | rfl) ?_
  intro p e s m below meth c B hSf
  obtain ⟨SC, hzc, SF, rf⟩ := id PX
  obtain ⟨BE, BV, BC, BN, BA⟩ := id PB
  refine gs (mkF m 1 _ [(.ref a1)]) (fun T A t k => XS.aloadN A B.x rfl (B.d d17_0) rfl rfl k) ?_
  refine gs (mkF m 2 _ [(.ref a2), (.ref a1)]) (fun T A t k => XS.aloadN A B.x rfl (B.d d17_1) rfl rfl k) ?_
  refine g_metN (c_priv B BE (hw _ (List.mem_of_getElem? (i := 110) rfl)) (hw _ (List.mem_of_getElem? (i := 111) rfl)) (hw _ (List.mem_of_getElem? (i := 112) rfl)) (hw _ (List.mem_of_getElem? (i := 114) rfl)) (z := (⟨"java/lang/AbstractStringBuilder", "ensureCapacityInternal", "(I)V"⟩ : MethodName)) (hw _ (List.mem_of_getElem? (i := 103) rfl)) rfl (by decide) rfl (lenOf pd_28Ljava2flang2fString3b29V rfl) rfl (Nat.le_of_eq rfl) d17_2 rfl (argsL := [(.ref a2)]) (rest := []) (W := 0) (q := 5)) (n_infl_34 l Z a0 hw hEL a1 a2 zc rv tb kb v0 v1 v2 v3 v4 v5 v6 v7 v8 v9 v10 v11 v12 v13 v14 v15 v16 v17 v18 v19 v20 v21 v22 v23 v24 v25 v26 v27 v28 v29 v30 v31 v32 v33 kk h0 n0 ⟨BE, BV, BC, BN, BA⟩ PE2 PC2 PX PO) (hw _ (List.mem_of_getElem? (i := 114) rfl)) (hw _ (List.mem_of_getElem? (i := 67) rfl)) (by decide) (by decide) (by decide) (by decide) ?_
  intro v21 h21 hz21 hQ21
  obtain ⟨rfl, rfl⟩ := hQ21
  refine gs (mkF m 6 _ [(.ref a2)]) (fun T A t k => XS.aloadN A B.x rfl (B.d d17_5) rfl rfl k) ?_
  refine gs (mkF m 7 _ [(.ref a1), (.ref a2)]) (fun T A t k => XS.aloadN A B.x rfl (B.d d17_6) rfl rfl k) ?_
  refine g_getF B (hw _ (List.mem_of_getElem? (i := 71) rfl)) Via.refl BV d17_7 (q := 10) rfl ?_
  refine gs (mkF m 11 _ [(.int (16 : Int32)), (.ref tb), (.ref a2)]) (fun T A t k => XS.iloadN A B.x rfl (B.d d17_10) rfl k) ?_
  refine gs (mkF m 12 _ [(.ref a1), (.int (16 : Int32)), (.ref tb), (.ref a2)]) (fun T A t k => XS.aloadN A B.x rfl (B.d d17_11) rfl rfl k) ?_
  refine g_getF B (hw _ (List.mem_of_getElem? (i := 73) rfl)) Via.refl BC d17_12 (q := 15) rfl ?_
  refine g_metN (c_virt B PE2 (hw _ (List.mem_of_getElem? (i := 116) rfl)) (hw _ (List.mem_of_getElem? (i := 117) rfl)) (hw _ (List.mem_of_getElem? (i := 119) rfl)) (hw _ (List.mem_of_getElem? (i := 118) rfl)) (nfs (z := (⟨"java/lang/String", "getBytes", "([BIB)V"⟩ : MethodName)) (hw _ (List.mem_of_getElem? (i := 119) rfl))) (by decide) rfl (lenOf pd_285bBIB29V rfl) rfl (Nat.le_of_eq rfl) d17_15 rfl (argsL := [(.ref tb), (.int (16 : Int32)), (.int (0 : Int32))]) (rest := []) (W := 0) (q := 18)) (n_gby_34_16_3 l Z a0 hw hEL a2 tb zc rv t2 k2 kb v0 v1 v2 v3 v4 v5 v6 v7 v8 v9 v10 v11 v12 v13 v14 v15 v16 v17 v18 v19 v20 v21 v22 v23 v24 v25 v26 v27 v28 v29 v30 v31 v32 v33 u0 u1 u2 h0 n0 PE2 PC2 PV2 PA2 BA (by omega) PX PO) (hw _ (List.mem_of_getElem? (i := 120) rfl)) (hw _ (List.mem_of_getElem? (i := 4) rfl)) (by decide) (by decide) (by decide) (by decide) ?_
  intro v22 h22 hz22 hQ22
  obtain ⟨rfl, K22, V22⟩ := hQ22
  have z22 := K22.1
  exact g_ret0 B d17_18 (by decide) (by decide) ⟨rfl, ((Keep.refl h0 [tb]).trans K22 (allS (Or.inl (by simp)) all0)), V22⟩
set_option maxRecDepth 65536 in
set_option maxHeartbeats 40000000 in
theorem n_aapp_16_16_3 (l : Launch) (Z : State) (a0 : Array Value) (hw : ∀ d ∈ tables_1, d.before a0 Z = true) (hEL : EW Z a0 []) (a1 : Addr) (a2 : Addr) (zc : Int32) (rv : Value) (tb : Addr) (kb : ClassId) (v0 v1 v2 v3 v4 v5 v6 v7 v8 v9 v10 v11 v12 v13 v14 v15 : Value) (t2 : Addr) (k2 : ClassId) (u0 u1 u2 : Value) (h0 : Heap) (n0 : Nat) (PB : SBN Z h0 a1 tb kb (16 : Int32) (16 : Int32) [v0, v1, v2, v3, v4, v5, v6, v7, v8, v9, v10, v11, v12, v13, v14, v15]) (PE2 : Exa Z h0 a2 "java/lang/String") (PC2 : Fld Z h0 a2 "java/lang/String" "coder" "B" (.int (0 : Int32))) (PV2 : Fld Z h0 a2 "java/lang/String" "value" "[B" (.ref t2)) (PA2 : Arv Z h0 t2 k2 .byte (3 : Int32) [u0, u1, u2] (.int (0 : Int32))) (hn : @LE.le Nat _ n0 h0.size) (hd : @LE.le Nat _ n0 tb) (hd1 : @LE.le Nat _ n0 a1) (hne : @Ne Nat a1 tb) (hna : @Ne Nat a2 a1) (hnt : @Ne Nat t2 a1) (PX : Sts Z zc rv) (PO : Old Z n0 h0) :
    Met false Z [] l (⟨"java/lang/AbstractStringBuilder", "append", "(Ljava/lang/String;)Ljava/lang/AbstractStringBuilder;"⟩ : MethodName) jdk_68_method_22_code 3 (some (.object "java/lang/AbstractStringBuilder")) ({ frames := 4, cells := 1, slots := 34, locals := 62 } : Room) #[(.ref a1), (.ref a2)] h0 [] n0 (fun v h => v = some (.ref a1) ∧ Keep h0 h [a1] ∧ ∃ (t' : Addr) (k' : ClassId), @LE.le Nat _ h0.size t' ∧ SBN Z h a1 t' k' (34 : Int32) (19 : Int32) [v0, v1, v2, v3, v4, v5, v6, v7, v8, v9, v10, v11, v12, v13, v14, v15, u0, u1, u2, (.int (0 : Int32)), (.int (0 : Int32)), (.int (0 : Int32)), (.int (0 : Int32)), (.int (0 : Int32)), (.int (0 : Int32)), (.int (0 : Int32)), (.int (0 : Int32)), (.int (0 : Int32)), (.int (0 : Int32)), (.int (0 : Int32)), (.int (0 : Int32)), (.int (0 : Int32)), (.int (0 : Int32)), (.int (0 : Int32))]) := by
  refine Met.of (a0 := a0) (Ls := #[.val (.ref a1), .val (.ref a2), .unset]) (fun z => rfl) (plainFor_of_name pn_java_lang_AbstractStringBuilder) hEL (fun m => by first | (simp [entryFrame, mkF, argsToLocals, Value.category]; done) | rfl) ?_
  intro p e s m below meth c B hSf
  obtain ⟨SC, hzc, SF, rf⟩ := id PX
  obtain ⟨BE, BV, BC, BN, BA⟩ := id PB
  have hlt1 : @LT.lt Nat _ a1 h0.size := BE.lt; have hlt2 : @LT.lt Nat _ a2 h0.size := PE2.lt; have hlt3 : @LT.lt Nat _ t2 h0.size := PA2.lt
  refine gs (mkF m 1 _ [(.ref a2)]) (fun T A t k => XS.aloadN A B.x rfl (B.d d13_0) rfl rfl k) ?_
  refine gs (mkF m 9 _ []) (fun T A t k => XS.ifnonnullYes A B.x rfl (pc0 := 1) (pc' := 9) rfl (B.d d13_1) rfl (by decide) (by decide) k) ?_
  refine gs (mkF m 10 _ [(.ref a2)]) (fun T A t k => XS.aloadN A B.x rfl (B.d d13_9) rfl rfl k) ?_
  refine g_metN (c_virt B PE2 (hw _ (List.mem_of_getElem? (i := 88) rfl)) (hw _ (List.mem_of_getElem? (i := 89) rfl)) (hw _ (List.mem_of_getElem? (i := 91) rfl)) (hw _ (List.mem_of_getElem? (i := 90) rfl)) (nfs (z := (⟨"java/lang/String", "length", "()I"⟩ : MethodName)) (hw _ (List.mem_of_getElem? (i := 91) rfl))) (by decide) rfl (lenOf pd_2829I rfl) rfl (Nat.le_of_eq rfl) d13_10 rfl (argsL := []) (rest := []) (W := 0) (q := 13)) (n_slen_3 l Z a0 hw hEL a2 zc rv t2 k2 u0 u1 u2 h0 n0 PE2 PC2 PV2 PA2 PX PO) (hw _ (List.mem_of_getElem? (i := 92) rfl)) (hw _ (List.mem_of_getElem? (i := 4) rfl)) (by decide) (by decide) (by decide) (by decide) ?_
  intro v21 h21 hz21 hQ21
  obtain ⟨rfl, rfl⟩ := hQ21
  refine gs (mkF m 14 #[.val (.ref a1), .val (.ref a2), .val (.int (3 : Int32))] []) (fun T A t k => XS.istoreN A B.x rfl (B.d d13_13) rfl (l' := #[.val (.ref a1), .val (.ref a2), .val (.int (3 : Int32))]) rfl k) ?_
  refine gs (mkF m 15 _ [(.ref a1)]) (fun T A t k => XS.aloadN A B.x rfl (B.d d13_14) rfl rfl k) ?_
  refine gs (mkF m 16 _ [(.ref a1), (.ref a1)]) (fun T A t k => XS.aloadN A B.x rfl (B.d d13_15) rfl rfl k) ?_
  refine g_getF B (hw _ (List.mem_of_getElem? (i := 98) rfl)) Via.refl BN d13_16 (q := 19) rfl ?_
  refine gs (mkF m 20 _ [(.int (3 : Int32)), (.int (16 : Int32)), (.ref a1)]) (fun T A t k => XS.iloadN A B.x rfl (B.d d13_19) rfl k) ?_
  refine gs (mkF m 21 _ [(.int (19 : Int32)), (.ref a1)]) (fun T A t k => XS.iadd A B.x rfl (B.d d13_20) rfl k) ?_
  refine g_metN (c_priv B BE (hw _ (List.mem_of_getElem? (i := 100) rfl)) (hw _ (List.mem_of_getElem? (i := 101) rfl)) (hw _ (List.mem_of_getElem? (i := 102) rfl)) (hw _ (List.mem_of_getElem? (i := 104) rfl)) (z := (⟨"java/lang/AbstractStringBuilder", "ensureCapacityInternal", "(I)V"⟩ : MethodName)) (hw _ (List.mem_of_getElem? (i := 103) rfl)) rfl (by decide) rfl (lenOf pd_28I29V rfl) rfl (Nat.le_of_eq rfl) d13_21 rfl (argsL := [(.int (19 : Int32))]) (rest := []) (W := 0) (q := 24)) (n_eci_16_19 l Z a0 hw hEL a1 zc rv tb kb v0 v1 v2 v3 v4 v5 v6 v7 v8 v9 v10 v11 v12 v13 v14 v15 (16 : Int32) h0 n0 ⟨BE, BV, BC, BN, BA⟩ (by omega) (by omega) PX PO) (hw _ (List.mem_of_getElem? (i := 104) rfl)) (hw _ (List.mem_of_getElem? (i := 67) rfl)) (by decide) (by decide) (by decide) (by decide) ?_
  intro v22 h22 hz22 hQ22
  obtain ⟨rfl, K22, t22, k22, g22, E22, F22v, F22c, F22n, V22⟩ := hQ22
  have z22 := K22.1; have y22 : @LT.lt Nat _ t22 h22.size := V22.lt
  refine gs (mkF m 25 _ [(.ref a1)]) (fun T A t k => XS.aloadN A B.x rfl (B.d d13_24) rfl rfl k) ?_
  refine gs (mkF m 26 _ [(.ref a1), (.ref a1)]) (fun T A t k => XS.aloadN A B.x rfl (B.d d13_25) rfl rfl k) ?_
  refine g_getF B (hw _ (List.mem_of_getElem? (i := 98) rfl)) Via.refl F22n d13_26 (q := 29) rfl ?_
  refine gs (mkF m 30 _ [(.ref a2), (.int (16 : Int32)), (.ref a1)]) (fun T A t k => XS.aloadN A B.x rfl (B.d d13_29) rfl rfl k) ?_
  refine g_metN (c_priv B E22 (hw _ (List.mem_of_getElem? (i := 105) rfl)) (hw _ (List.mem_of_getElem? (i := 106) rfl)) (hw _ (List.mem_of_getElem? (i := 107) rfl)) (hw _ (List.mem_of_getElem? (i := 109) rfl)) (z := (⟨"java/lang/AbstractStringBuilder", "ensureCapacityInternal", "(I)V"⟩ : MethodName)) (hw _ (List.mem_of_getElem? (i := 103) rfl)) rfl (by decide) rfl (lenOf pd_28ILjava2flang2fString3b29V rfl) rfl (Nat.le_of_eq rfl) d13_30 rfl (argsL := [(.int (16 : Int32)), (.ref a2)]) (rest := []) (W := 0) (q := 33)) (n_psa_34_16_3 l Z a0 hw hEL a1 a2 zc rv t22 k22 v0 v1 v2 v3 v4 v5 v6 v7 v8 v9 v10 v11 v12 v13 v14 v15 (.int (0 : Int32)) (.int (0 : Int32)) (.int (0 : Int32)) (.int (0 : Int32)) (.int (0 : Int32)) (.int (0 : Int32)) (.int (0 : Int32)) (.int (0 : Int32)) (.int (0 : Int32)) (.int (0 : Int32)) (.int (0 : Int32)) (.int (0 : Int32)) (.int (0 : Int32)) (.int (0 : Int32)) (.int (0 : Int32)) (.int (0 : Int32)) (.int (0 : Int32)) (.int (0 : Int32)) t2 k2 u0 u1 u2 (16 : Int32) h22 n0 ⟨E22, F22v, F22c, F22n, V22⟩ (PE2.keep K22) (PC2.keep K22 (ninS (by omega : @Ne Nat a2 a1) nin0)) (PV2.keep K22 (ninS (by omega : @Ne Nat a2 a1) nin0)) (PA2.keep K22 (ninS (by omega : @Ne Nat t2 a1) nin0)) (by omega) PX (PO.keep K22 (allS (by omega) all0))) (hw _ (List.mem_of_getElem? (i := 109) rfl)) (hw _ (List.mem_of_getElem? (i := 67) rfl)) (by decide) (by decide) (by decide) (by decide) ?_
  intro v23 h23 hz23 hQ23
  obtain ⟨rfl, K23, V23⟩ := hQ23
  have z23 := K23.1
  refine gs (mkF m 34 _ [(.ref a1)]) (fun T A t k => XS.aloadN A B.x rfl (B.d d13_33) rfl rfl k) ?_
  refine gs (mkF m 35 _ [(.ref a1), (.ref a1)]) (fun T A t k => XS.dup A B.x rfl (B.d d13_34) rfl rfl k) ?_
  refine g_getF B (hw _ (List.mem_of_getElem? (i := 98) rfl)) Via.refl (F22n.keep K23 (ninS (by omega : @Ne Nat a1 t22) nin0)) d13_35 (q := 38) rfl ?_
  refine gs (mkF m 39 _ [(.int (3 : Int32)), (.int (16 : Int32)), (.ref a1)]) (fun T A t k => XS.iloadN A B.x rfl (B.d d13_38) rfl k) ?_
  refine gs (mkF m 40 _ [(.int (19 : Int32)), (.ref a1)]) (fun T A t k => XS.iadd A B.x rfl (B.d d13_39) rfl k) ?_
  refine g_putF B (hw _ (List.mem_of_getElem? (i := 98) rfl)) Via.refl (F22n.keep K23 (ninS (by omega : @Ne Nat a1 t22) nin0)) (E22.keep K23) (Or.inl (hw _ (List.mem_of_getElem? (i := 99) rfl))) (hw _ (List.mem_of_getElem? (i := 58) rfl)) (ty := .int) (by decide) rfl rfl d13_40 nos (by omega) (q := 43) rfl ?_
  intro h24 W24 F24
  have z24 := W24.size
  refine gs (mkF m 44 _ [(.ref a1)]) (fun T A t k => XS.aloadN A B.x rfl (B.d d13_43) rfl rfl k) ?_
  exact g_retA B rfl rfl d13_44 (by decide) (by decide) ⟨rfl, ((((Keep.refl h0 [a1]).trans K22 (allS (Or.inl (by simp)) all0)).trans K23 (allS (Or.inr (by omega)) all0)).wr W24 (Or.inl (by simp))), _, _, (by omega), ⟨((E22.keep K23).wr W24), ((F22v.keep K23 (ninS (by omega : @Ne Nat a1 t22) nin0)).other W24 (Or.inr (slot_ne (Or.inl (hw _ (List.mem_of_getElem? (i := 72) rfl))) (Or.inl (hw _ (List.mem_of_getElem? (i := 99) rfl))) (by decide) (t := (.array .byte)) (t' := .int) (by decide) (by decide)))), ((F22c.keep K23 (ninS (by omega : @Ne Nat a1 t22) nin0)).other W24 (Or.inr (slot_ne (Or.inl (hw _ (List.mem_of_getElem? (i := 74) rfl))) (Or.inl (hw _ (List.mem_of_getElem? (i := 99) rfl))) (by decide) (t := .byte) (t' := .int) (by decide) (by decide)))), F24, (V23.other W24 (by omega : @Ne Nat t22 a1))⟩⟩
set_option maxRecDepth 65536 in
set_option maxHeartbeats 40000000 in
theorem n_sapp_16_16_3 (l : Launch) (Z : State) (a0 : Array Value) (hw : ∀ d ∈ tables_1, d.before a0 Z = true) (hEL : EW Z a0 []) (a1 : Addr) (a2 : Addr) (zc : Int32) (rv : Value) (tb : Addr) (kb : ClassId) (v0 v1 v2 v3 v4 v5 v6 v7 v8 v9 v10 v11 v12 v13 v14 v15 : Value) (t2 : Addr) (k2 : ClassId) (u0 u1 u2 : Value) (h0 : Heap) (n0 : Nat) (PB : SBN Z h0 a1 tb kb (16 : Int32) (16 : Int32) [v0, v1, v2, v3, v4, v5, v6, v7, v8, v9, v10, v11, v12, v13, v14, v15]) (PE2 : Exa Z h0 a2 "java/lang/String") (PC2 : Fld Z h0 a2 "java/lang/String" "coder" "B" (.int (0 : Int32))) (PV2 : Fld Z h0 a2 "java/lang/String" "value" "[B" (.ref t2)) (PA2 : Arv Z h0 t2 k2 .byte (3 : Int32) [u0, u1, u2] (.int (0 : Int32))) (hn : @LE.le Nat _ n0 h0.size) (hd : @LE.le Nat _ n0 tb) (hd1 : @LE.le Nat _ n0 a1) (hne : @Ne Nat a1 tb) (hna : @Ne Nat a2 a1) (hnt : @Ne Nat t2 a1) (PX : Sts Z zc rv) (PO : Old Z n0 h0) :
    Met false Z [] l (⟨"java/lang/StringBuilder", "append", "(Ljava/lang/String;)Ljava/lang/StringBuilder;"⟩ : MethodName) jdk_67_method_7_code 2 (some (.object "java/lang/StringBuilder")) ({ frames := 5, cells := 1, slots := 34, locals := 76 } : Room) #[(.ref a1), (.ref a2)] h0 [] n0 (fun v h => v = some (.ref a1) ∧ Keep h0 h [a1] ∧ ∃ (t' : Addr) (k' : ClassId), @LE.le Nat _ h0.size t' ∧ SBN Z h a1 t' k' (34 : Int32) (19 : Int32) [v0, v1, v2, v3, v4, v5, v6, v7, v8, v9, v10, v11, v12, v13, v14, v15, u0, u1, u2, (.int (0 : Int32)), (.int (0 : Int32)), (.int (0 : Int32)), (.int (0 : Int32)), (.int (0 : Int32)), (.int (0 : Int32)), (.int (0 : Int32)), (.int (0 : Int32)), (.int (0 : Int32)), (.int (0 : Int32)), (.int (0 : Int32)), (.int (0 : Int32)), (.int (0 : Int32)), (.int (0 : Int32)), (.int (0 : Int32))]) := by
  refine Met.of (a0 := a0) (Ls := #[.val (.ref a1), .val (.ref a2)]) (fun z => rfl) (plainFor_of_name pn_java_lang_StringBuilder) hEL (fun m => by first | (simp [entryFrame, mkF, argsToLocals, Value.category]; done) | rfl) ?_
  intro p e s m below meth c B hSf
  obtain ⟨SC, hzc, SF, rf⟩ := id PX
  obtain ⟨BE, BV, BC, BN, BA⟩ := id PB
  have hlt1 : @LT.lt Nat _ a1 h0.size := BE.lt; have hlt2 : @LT.lt Nat _ a2 h0.size := PE2.lt; have hlt3 : @LT.lt Nat _ t2 h0.size := PA2.lt
  refine gs (mkF m 1 _ [(.ref a1)]) (fun T A t k => XS.aloadN A B.x rfl (B.d d12_0) rfl rfl k) ?_
  refine gs (mkF m 2 _ [(.ref a2), (.ref a1)]) (fun T A t k => XS.aloadN A B.x rfl (B.d d12_1) rfl rfl k) ?_
  refine g_metN (c_super B BE (hw _ (List.mem_of_getElem? (i := 83) rfl)) (sameM (hw _ (List.mem_of_getElem? (i := 84) rfl)) (hw _ (List.mem_of_getElem? (i := 103) rfl)) rfl (by decide)) (hw _ (List.mem_of_getElem? (i := 84) rfl)) (hw _ (List.mem_of_getElem? (i := 85) rfl)) (by decide) (hw _ (List.mem_of_getElem? (i := 87) rfl)) rfl (lenOf pd_28Ljava2flang2fString3b29Ljava2flang2fAbstractStringBuilder3b rfl) rfl (Nat.le_of_eq rfl) d12_2 rfl (argsL := [(.ref a2)]) (rest := []) (W := 0) (q := 5)) (n_aapp_16_16_3 l Z a0 hw hEL a1 a2 zc rv tb kb v0 v1 v2 v3 v4 v5 v6 v7 v8 v9 v10 v11 v12 v13 v14 v15 t2 k2 u0 u1 u2 h0 n0 ⟨BE, BV, BC, BN, BA⟩ PE2 PC2 PV2 PA2 (by omega) (by omega) (by omega) (by omega) (by omega) (by omega) PX PO) (hw _ (List.mem_of_getElem? (i := 87) rfl)) (hw _ (List.mem_of_getElem? (i := 67) rfl)) (by decide) (by decide) (by decide) (by decide) ?_
  intro v21 h21 hz21 hQ21
  obtain ⟨rfl, K9, t9, k9, g9, B9⟩ := hQ21
  refine gs (mkF m 6 _ []) (fun T A t k => XS.pop A B.x rfl (B.d d12_5) rfl rfl k) ?_
  refine gs (mkF m 7 _ [(.ref a1)]) (fun T A t k => XS.aloadN A B.x rfl (B.d d12_6) rfl rfl k) ?_
  exact g_retA B rfl rfl d12_7 (by decide) (by decide) ⟨rfl, K9, _, _, g9, B9⟩
theorem d9_16 : decode prog_15_method_7_code 16 = .ok (.invokevirtual 40, 3) := by decide +kernel
theorem d9_19 : decode prog_15_method_7_code 19 = .ok (.ldc 52, 2) := by decide +kernel
set_option maxRecDepth 65536 in
set_option maxHeartbeats 40000000 in
theorem n_max_1_36 (l : Launch) (Z : State) (a0 : Array Value) (hw : ∀ d ∈ tables_1, d.before a0 Z = true) (hEL : EW Z a0 [])   (h0 : Heap) (n0 : Nat)  :
    Met false Z [] l (⟨"java/lang/Math", "max", "(II)I"⟩ : MethodName) jdk_29_method_65_code 2 (some .int) ({ frames := 0, cells := 0, slots := 0, locals := 0 } : Room) #[(.int (1 : Int32)), (.int (36 : Int32))] h0 [] n0 (fun v h => v = some (.int (36 : Int32)) ∧ h0 = h) := by
  refine Met.of (a0 := a0) (Ls := #[.val (.int (1 : Int32)), .val (.int (36 : Int32))]) (fun z => rfl) (Jvm.Free.JP.mathPlain rfl (by decide +kernel)) hEL (fun m => by first | (simp [entryFrame, mkF, argsToLocals, Value.category]; done) | rfl) ?_
  intro p e s m below meth c B hSf
  refine gs (mkF m 1 _ [(.int (1 : Int32))]) (fun T A t k => XS.iloadN A B.x rfl (B.d d22_0) rfl k) ?_
  refine gs (mkF m 2 _ [(.int (36 : Int32)), (.int (1 : Int32))]) (fun T A t k => XS.iloadN A B.x rfl (B.d d22_1) rfl k) ?_
  refine gs (mkF m 9 _ []) (fun T A t k => XS.icmpYes A B.x rfl (pc0 := 2) (pc' := 9) rfl (B.d d22_2) rfl (tlt (by decide : (1 : Int32) < (36 : Int32))).1 (by decide) (by decide) k) ?_
  refine gs (mkF m 10 _ [(.int (36 : Int32))]) (fun T A t k => XS.iloadN A B.x rfl (B.d d22_9) rfl k) ?_
  exact g_retI B d22_10 (by decide) (by decide) ⟨rfl, rfl⟩
set_option maxRecDepth 65536 in
set_option maxHeartbeats 40000000 in
theorem n_nlen_34_1_36 (l : Launch) (Z : State) (a0 : Array Value) (hw : ∀ d ∈ tables_1, d.before a0 Z = true) (hEL : EW Z a0 [])   (h0 : Heap) (n0 : Nat)  :
    Met false Z [] l (⟨"jdk/internal/util/ArraysSupport", "newLength", "(III)I"⟩ : MethodName) jdk_48_method_27_code 4 (some .int) ({ frames := 1, cells := 0, slots := 0, locals := 14 } : Room) #[(.int (34 : Int32)), (.int (1 : Int32)), (.int (36 : Int32))] h0 [] n0 (fun v h => v = some (.int (70 : Int32)) ∧ h0 = h) := by
  refine Met.of (a0 := a0) (Ls := #[.val (.int (34 : Int32)), .val (.int (1 : Int32)), .val (.int (36 : Int32)), .unset]) (fun z => rfl) (plainFor_of_name pn_jdk_internal_util_ArraysSupport) hEL (fun m => by first | (simp [entryFrame, mkF, argsToLocals, Value.category]; done) | rfl) ?_
  intro p e s m below meth c B hSf
  refine gs (mkF m 1 _ [(.int (34 : Int32))]) (fun T A t k => XS.iloadN A B.x rfl (B.d d21_0) rfl k) ?_
  refine gs (mkF m 2 _ [(.int (1 : Int32)), (.int (34 : Int32))]) (fun T A t k => XS.iloadN A B.x rfl (B.d d21_1) rfl k) ?_
  refine gs (mkF m 3 _ [(.int (36 : Int32)), (.int (1 : Int32)), (.int (34 : Int32))]) (fun T A t k => XS.iloadN A B.x rfl (B.d d21_2) rfl k) ?_
  refine g_metN (c_static B (hw _ (List.mem_of_getElem? (i := 136) rfl)) (hw _ (List.mem_of_getElem? (i := 137) rfl)) (hw _ (List.mem_of_getElem? (i := 138) rfl)) (hw _ (List.mem_of_getElem? (i := 139) rfl)) (by decide) rfl (lenOf pd_28II29I rfl) rfl (Nat.le_of_eq rfl) d21_3 rfl (argsL := [(.int (1 : Int32)), (.int (36 : Int32))]) (rest := [(.int (34 : Int32))]) (W := 1) (q := 6)) (n_max_1_36 l Z a0 hw hEL  h0 n0) (hw _ (List.mem_of_getElem? (i := 139) rfl)) (hw _ (List.mem_of_getElem? (i := 138) rfl)) (by decide) (by decide) (by decide) (by decide) ?_
  intro v1 h1 hz1 hQ1
  obtain ⟨rfl, rfl⟩ := hQ1
  refine gs (mkF m 7 _ [(.int (70 : Int32))]) (fun T A t k => XS.iadd A B.x rfl (B.d d21_6) rfl k) ?_
  refine gs (mkF m 8 #[.val (.int (34 : Int32)), .val (.int (1 : Int32)), .val (.int (36 : Int32)), .val (.int (70 : Int32))] []) (fun T A t k => XS.istoreN A B.x rfl (B.d d21_7) rfl (l' := #[.val (.int (34 : Int32)), .val (.int (1 : Int32)), .val (.int (36 : Int32)), .val (.int (70 : Int32))]) rfl k) ?_
  refine gs (mkF m 9 _ [(.int (0 : Int32))]) (fun T A t k => XS.iconst A B.x rfl (B.d d21_8) k) ?_
  refine gs (mkF m 10 _ [(.int (70 : Int32)), (.int (0 : Int32))]) (fun T A t k => XS.iloadN A B.x rfl (B.d d21_9) rfl k) ?_
  refine gs (mkF m 13 _ []) (fun T A t k => XS.icmpNo A B.x rfl (B.d d21_10) rfl (tlt (by decide : (0 : Int32) < (70 : Int32))).2.1 k) ?_
  refine gs (mkF m 14 _ [(.int (70 : Int32))]) (fun T A t k => XS.iloadN A B.x rfl (B.d d21_13) rfl k) ?_
  refine g_ldcI B (hw _ (List.mem_of_getElem? (i := 140) rfl)) d21_14 (q := 16) rfl ?_
  refine gs (mkF m 19 _ []) (fun T A t k => XS.icmpNo A B.x rfl (B.d d21_16) rfl (flt (by decide : ¬ ((2147483639 : Int32) < (70 : Int32)))).2.2.1 k) ?_
  refine gs (mkF m 20 _ [(.int (70 : Int32))]) (fun T A t k => XS.iloadN A B.x rfl (B.d d21_19) rfl k) ?_
  exact g_retI B d21_20 (by decide) (by decide) ⟨rfl, rfl⟩
set_option maxRecDepth 65536 in
set_option maxHeartbeats 40000000 in
theorem n_sb_newCapacity_False_34_35 (l : Launch) (Z : State) (a0 : Array Value) (hw : ∀ d ∈ tables_1, d.before a0 Z = true) (hEL : EW Z a0 []) (a1 : Addr) (zc : Int32) (rv : Value) (tb : Addr) (kb : ClassId) (v0 v1 v2 v3 v4 v5 v6 v7 v8 v9 v10 v11 v12 v13 v14 v15 v16 v17 v18 v19 v20 v21 v22 v23 v24 v25 v26 v27 v28 v29 v30 v31 v32 v33 : Value) (kk : Int32) (h0 : Heap) (n0 : Nat) (PB : SBN Z h0 a1 tb kb (34 : Int32) kk [v0, v1, v2, v3, v4, v5, v6, v7, v8, v9, v10, v11, v12, v13, v14, v15, v16, v17, v18, v19, v20, v21, v22, v23, v24, v25, v26, v27, v28, v29, v30, v31, v32, v33]) (PX : Sts Z zc rv) (PO : Old Z n0 h0) :
    Met false Z [] l (⟨"java/lang/AbstractStringBuilder", "newCapacity", "(I)I"⟩ : MethodName) jdk_68_method_10_code 6 (some .int) ({ frames := 2, cells := 0, slots := 0, locals := 29 } : Room) #[(.ref a1), (.int (35 : Int32))] h0 [] n0 (fun v h => v = some (.int (70 : Int32)) ∧ h0 = h) := by
  refine Met.of (a0 := a0) (Ls := #[.val (.ref a1), .val (.int (35 : Int32)), .unset, .unset, .unset, .unset]) (fun z => rfl) (plainFor_of_name pn_java_lang_AbstractStringBuilder) hEL (fun m => by first | (simp [entryFrame, mkF, argsToLocals, Value.category]; done) | rfl) ?_
  intro p e s m below meth c B hSf
  obtain ⟨SC, hzc, SF, rf⟩ := id PX
  obtain ⟨BE, BV, BC, BN, BA⟩ := id PB
  refine gs (mkF m 1 _ [(.ref a1)]) (fun T A t k => XS.aloadN A B.x rfl (B.d d20_0) rfl rfl k) ?_
  refine g_getF B (hw _ (List.mem_of_getElem? (i := 71) rfl)) Via.refl BV d20_1 (q := 4) rfl ?_
  refine g_len B BA d20_4 (q := 5) rfl ?_
  refine gs (mkF m 6 #[.val (.ref a1), .val (.int (35 : Int32)), .val (.int (34 : Int32)), .unset, .unset, .unset] []) (fun T A t k => XS.istoreN A B.x rfl (B.d d20_5) rfl (l' := #[.val (.ref a1), .val (.int (35 : Int32)), .val (.int (34 : Int32)), .unset, .unset, .unset]) rfl k) ?_
  refine gs (mkF m 7 _ [(.int (35 : Int32))]) (fun T A t k => XS.iloadN A B.x rfl (B.d d20_6) rfl k) ?_
  refine gs (mkF m 8 _ [(.ref a1), (.int (35 : Int32))]) (fun T A t k => XS.aloadN A B.x rfl (B.d d20_7) rfl rfl k) ?_
  refine g_getF B (hw _ (List.mem_of_getElem? (i := 73) rfl)) Via.refl BC d20_8 (q := 11) rfl ?_
  refine gs (mkF m 12 _ [(.int (35 : Int32))]) (fun T A t k => XS.ishl A B.x rfl (B.d d20_11) rfl k) ?_
  refine gs (mkF m 13 #[.val (.ref a1), .val (.int (35 : Int32)), .val (.int (34 : Int32)), .val (.int (35 : Int32)), .unset, .unset] []) (fun T A t k => XS.istoreN A B.x rfl (B.d d20_12) rfl (l' := #[.val (.ref a1), .val (.int (35 : Int32)), .val (.int (34 : Int32)), .val (.int (35 : Int32)), .unset, .unset]) rfl k) ?_
  refine gs (mkF m 14 _ [(.int (35 : Int32))]) (fun T A t k => XS.iloadN A B.x rfl (B.d d20_13) rfl k) ?_
  refine gs (mkF m 15 _ [(.int (34 : Int32)), (.int (35 : Int32))]) (fun T A t k => XS.iloadN A B.x rfl (B.d d20_14) rfl k) ?_
  refine gs (mkF m 16 _ [(.int (1 : Int32))]) (fun T A t k => XS.isub A B.x rfl (B.d d20_15) rfl k) ?_
  refine gs (mkF m 18 #[.val (.ref a1), .val (.int (35 : Int32)), .val (.int (34 : Int32)), .val (.int (35 : Int32)), .val (.int (1 : Int32)), .unset] []) (fun T A t k => XS.istore A B.x rfl (B.d d20_16) rfl (l' := #[.val (.ref a1), .val (.int (35 : Int32)), .val (.int (34 : Int32)), .val (.int (35 : Int32)), .val (.int (1 : Int32)), .unset]) rfl k) ?_
  refine gs (mkF m 19 _ [(.int (34 : Int32))]) (fun T A t k => XS.iloadN A B.x rfl (B.d d20_18) rfl k) ?_
  refine gs (mkF m 21 _ [(.int (1 : Int32)), (.int (34 : Int32))]) (fun T A t k => XS.iload A B.x rfl (B.d d20_19) rfl k) ?_
  refine gs (mkF m 22 _ [(.int (34 : Int32)), (.int (1 : Int32)), (.int (34 : Int32))]) (fun T A t k => XS.iloadN A B.x rfl (B.d d20_21) rfl k) ?_
  refine gs (mkF m 23 _ [(.int (2 : Int32)), (.int (34 : Int32)), (.int (1 : Int32)), (.int (34 : Int32))]) (fun T A t k => XS.iconst A B.x rfl (B.d d20_22) k) ?_
  refine gs (mkF m 24 _ [(.ref a1), (.int (2 : Int32)), (.int (34 : Int32)), (.int (1 : Int32)), (.int (34 : Int32))]) (fun T A t k => XS.aloadN A B.x rfl (B.d d20_23) rfl rfl k) ?_
  refine g_getF B (hw _ (List.mem_of_getElem? (i := 73) rfl)) Via.refl BC d20_24 (q := 27) rfl ?_
  refine gs (mkF m 28 _ [(.int (2 : Int32)), (.int (34 : Int32)), (.int (1 : Int32)), (.int (34 : Int32))]) (fun T A t k => XS.ishl A B.x rfl (B.d d20_27) rfl k) ?_
  refine gs (mkF m 29 _ [(.int (36 : Int32)), (.int (1 : Int32)), (.int (34 : Int32))]) (fun T A t k => XS.iadd A B.x rfl (B.d d20_28) rfl k) ?_
  refine g_metN (c_static B (hw _ (List.mem_of_getElem? (i := 132) rfl)) (hw _ (List.mem_of_getElem? (i := 133) rfl)) (hw _ (List.mem_of_getElem? (i := 134) rfl)) (hw _ (List.mem_of_getElem? (i := 135) rfl)) (by decide) rfl (lenOf pd_28III29I rfl) rfl (Nat.le_of_eq rfl) d20_29 rfl (argsL := [(.int (34 : Int32)), (.int (1 : Int32)), (.int (36 : Int32))]) (rest := []) (W := 0) (q := 32)) (n_nlen_34_1_36 l Z a0 hw hEL  h0 n0) (hw _ (List.mem_of_getElem? (i := 135) rfl)) (hw _ (List.mem_of_getElem? (i := 134) rfl)) (by decide) (by decide) (by decide) (by decide) ?_
  intro v21 h21 hz21 hQ21
  obtain ⟨rfl, rfl⟩ := hQ21
  refine gs (mkF m 34 #[.val (.ref a1), .val (.int (35 : Int32)), .val (.int (34 : Int32)), .val (.int (35 : Int32)), .val (.int (1 : Int32)), .val (.int (70 : Int32))] []) (fun T A t k => XS.istore A B.x rfl (B.d d20_32) rfl (l' := #[.val (.ref a1), .val (.int (35 : Int32)), .val (.int (34 : Int32)), .val (.int (35 : Int32)), .val (.int (1 : Int32)), .val (.int (70 : Int32))]) rfl k) ?_
  refine gs (mkF m 36 _ [(.int (70 : Int32))]) (fun T A t k => XS.iload A B.x rfl (B.d d20_34) rfl k) ?_
  refine g_ldcI B (hw _ (List.mem_of_getElem? (i := 141) rfl)) d20_36 (q := 38) rfl ?_
  refine gs (mkF m 51 _ []) (fun T A t k => XS.icmpYes A B.x rfl (pc0 := 38) (pc' := 51) rfl (B.d d20_38) rfl (feq (by decide : ¬ ((70 : Int32) = (2147483647 : Int32)))).2 (by decide) (by decide) k) ?_
  refine gs (mkF m 53 _ [(.int (70 : Int32))]) (fun T A t k => XS.iload A B.x rfl (B.d d20_51) rfl k) ?_
  refine gs (mkF m 54 _ [(.ref a1), (.int (70 : Int32))]) (fun T A t k => XS.aloadN A B.x rfl (B.d d20_53) rfl rfl k) ?_
  refine g_getF B (hw _ (List.mem_of_getElem? (i := 73) rfl)) Via.refl BC d20_54 (q := 57) rfl ?_
  refine gs (mkF m 58 _ [(.int (70 : Int32))]) (fun T A t k => XS.ishr A B.x rfl (B.d d20_57) rfl k) ?_
  exact g_retI B d20_58 (by decide) (by decide) ⟨rfl, rfl⟩
set_option maxRecDepth 65536 in
set_option maxHeartbeats 40000000 in
theorem n_min_34_70 (l : Launch) (Z : State) (a0 : Array Value) (hw : ∀ d ∈ tables_1, d.before a0 Z = true) (hEL : EW Z a0 [])   (h0 : Heap) (n0 : Nat)  :
    Met false Z [] l (⟨"java/lang/Math", "min", "(II)I"⟩ : MethodName) jdk_29_method_69_code 2 (some .int) ({ frames := 0, cells := 0, slots := 0, locals := 0 } : Room) #[(.int (34 : Int32)), (.int (70 : Int32))] h0 [] n0 (fun v h => v = some (.int (34 : Int32)) ∧ h0 = h) := by
  refine Met.of (a0 := a0) (Ls := #[.val (.int (34 : Int32)), .val (.int (70 : Int32))]) (fun z => rfl) (Jvm.Free.JP.mathPlain rfl (by decide +kernel)) hEL (fun m => by first | (simp [entryFrame, mkF, argsToLocals, Value.category]; done) | rfl) ?_
  intro p e s m below meth c B hSf
  refine gs (mkF m 1 _ [(.int (34 : Int32))]) (fun T A t k => XS.iloadN A B.x rfl (B.d d24_0) rfl k) ?_
  refine gs (mkF m 2 _ [(.int (70 : Int32)), (.int (34 : Int32))]) (fun T A t k => XS.iloadN A B.x rfl (B.d d24_1) rfl k) ?_
  refine gs (mkF m 5 _ []) (fun T A t k => XS.icmpNo A B.x rfl (B.d d24_2) rfl (flt (by decide : ¬ ((70 : Int32) < (34 : Int32)))).2.2.1 k) ?_
  refine gs (mkF m 6 _ [(.int (34 : Int32))]) (fun T A t k => XS.iloadN A B.x rfl (B.d d24_5) rfl k) ?_
  refine gs (mkF m 10 _ [(.int (34 : Int32))]) (fun T A t k => XS.goto A B.x rfl (pc0 := 6) (pc' := 10) rfl (B.d d24_6) (by decide) (by decide) k) ?_
  exact g_retI B d24_10 (by decide) (by decide) ⟨rfl, rfl⟩
set_option maxRecDepth 65536 in
set_option maxHeartbeats 40000000 in
theorem n_copyOf_34_70 (l : Launch) (Z : State) (a0 : Array Value) (hw : ∀ d ∈ tables_1, d.before a0 Z = true) (hEL : EW Z a0 []) (a1 : Addr) (kb : ClassId) (v0 v1 v2 v3 v4 v5 v6 v7 v8 v9 v10 v11 v12 v13 v14 v15 v16 v17 v18 v19 v20 v21 v22 v23 v24 v25 v26 v27 v28 v29 v30 v31 v32 v33 : Value) (h0 : Heap) (n0 : Nat) (PA : Arv Z h0 a1 kb .byte (34 : Int32) [v0, v1, v2, v3, v4, v5, v6, v7, v8, v9, v10, v11, v12, v13, v14, v15, v16, v17, v18, v19, v20, v21, v22, v23, v24, v25, v26, v27, v28, v29, v30, v31, v32, v33] (.int (0 : Int32))) (hn : @LE.le Nat _ n0 h0.size) :
    Met false Z [] l (⟨"java/util/Arrays", "copyOf", "([BI)[B"⟩ : MethodName) jdk_65_method_121_code 3 (some (.array .byte)) ({ frames := 1, cells := 1, slots := 70, locals := 18 } : Room) #[(.ref a1), (.int (70 : Int32))] h0 [] n0 (fun v h => ∃ (x : Addr) (kb' : ClassId), v = some (.ref x) ∧ Keep h0 h [] ∧ @LE.le Nat _ h0.size x ∧ Arv Z h x kb' .byte (70 : Int32) [v0, v1, v2, v3, v4, v5, v6, v7, v8, v9, v10, v11, v12, v13, v14, v15, v16, v17, v18, v19, v20, v21, v22, v23, v24, v25, v26, v27, v28, v29, v30, v31, v32, v33, (.int (0 : Int32)), (.int (0 : Int32)), (.int (0 : Int32)), (.int (0 : Int32)), (.int (0 : Int32)), (.int (0 : Int32)), (.int (0 : Int32)), (.int (0 : Int32)), (.int (0 : Int32)), (.int (0 : Int32)), (.int (0 : Int32)), (.int (0 : Int32)), (.int (0 : Int32)), (.int (0 : Int32)), (.int (0 : Int32)), (.int (0 : Int32)), (.int (0 : Int32)), (.int (0 : Int32)), (.int (0 : Int32)), (.int (0 : Int32)), (.int (0 : Int32)), (.int (0 : Int32)), (.int (0 : Int32)), (.int (0 : Int32)), (.int (0 : Int32)), (.int (0 : Int32)), (.int (0 : Int32)), (.int (0 : Int32)), (.int (0 : Int32)), (.int (0 : Int32)), (.int (0 : Int32)), (.int (0 : Int32)), (.int (0 : Int32)), (.int (0 : Int32)), (.int (0 : Int32)), (.int (0 : Int32))] (.int (0 : Int32))) := by
  refine Met.of (a0 := a0) (Ls := #[.val (.ref a1), .val (.int (70 : Int32)), .unset]) (fun z => rfl) (plainFor_of_name pn_java_util_Arrays) hEL (fun m => by first | (simp [entryFrame, mkF, argsToLocals, Value.category]; done) | rfl) ?_
  intro p e s m below meth c B hSf
  have hlt1 : @LT.lt Nat _ a1 h0.size := PA.lt
  refine gs (mkF m 1 _ [(.int (70 : Int32))]) (fun T A t k => XS.iloadN A B.x rfl (B.d d23_0) rfl k) ?_
  refine gs (mkF m 2 _ [(.ref a1), (.int (70 : Int32))]) (fun T A t k => XS.aloadN A B.x rfl (B.d d23_1) rfl rfl k) ?_
  refine g_len B PA d23_2 (q := 3) rfl ?_
  refine gs (mkF m 14 _ []) (fun T A t k => XS.icmpYes A B.x rfl (pc0 := 3) (pc' := 14) rfl (B.d d23_3) rfl (feq (by decide : ¬ ((70 : Int32) = (34 : Int32)))).2 (by decide) (by decide) k) ?_
  refine gs (mkF m 15 _ [(.int (70 : Int32))]) (fun T A t k => XS.iloadN A B.x rfl (B.d d23_14) rfl k) ?_
  refine g_newP B (hw _ (List.mem_of_getElem? (i := 20) rfl)) d23_15 (by decide) (cap := 70) (by decide) (by decide) (by decide) (by decide) (q := 17) rfl ?_
  intro h21 b21 k21 g21 E21 S21 A21
  have z21 := E21.1; have y21 : @LT.lt Nat _ b21 h21.size := A21.lt
  have V21 : Arv Z h21 b21 k21 .byte (70 : Int32) [(.int (0 : Int32)), (.int (0 : Int32)), (.int (0 : Int32)), (.int (0 : Int32)), (.int (0 : Int32)), (.int (0 : Int32)), (.int (0 : Int32)), (.int (0 : Int32)), (.int (0 : Int32)), (.int (0 : Int32)), (.int (0 : Int32)), (.int (0 : Int32)), (.int (0 : Int32)), (.int (0 : Int32)), (.int (0 : Int32)), (.int (0 : Int32)), (.int (0 : Int32)), (.int (0 : Int32)), (.int (0 : Int32)), (.int (0 : Int32)), (.int (0 : Int32)), (.int (0 : Int32)), (.int (0 : Int32)), (.int (0 : Int32)), (.int (0 : Int32)), (.int (0 : Int32)), (.int (0 : Int32)), (.int (0 : Int32)), (.int (0 : Int32)), (.int (0 : Int32)), (.int (0 : Int32)), (.int (0 : Int32)), (.int (0 : Int32)), (.int (0 : Int32)), (.int (0 : Int32)), (.int (0 : Int32)), (.int (0 : Int32)), (.int (0 : Int32)), (.int (0 : Int32)), (.int (0 : Int32)), (.int (0 : Int32)), (.int (0 : Int32)), (.int (0 : Int32)), (.int (0 : Int32)), (.int (0 : Int32)), (.int (0 : Int32)), (.int (0 : Int32)), (.int (0 : Int32)), (.int (0 : Int32)), (.int (0 : Int32)), (.int (0 : Int32)), (.int (0 : Int32)), (.int (0 : Int32)), (.int (0 : Int32)), (.int (0 : Int32)), (.int (0 : Int32)), (.int (0 : Int32)), (.int (0 : Int32)), (.int (0 : Int32)), (.int (0 : Int32)), (.int (0 : Int32)), (.int (0 : Int32)), (.int (0 : Int32)), (.int (0 : Int32)), (.int (0 : Int32)), (.int (0 : Int32)), (.int (0 : Int32)), (.int (0 : Int32)), (.int (0 : Int32)), (.int (0 : Int32))] (.int (0 : Int32)) := A21
  refine gs (mkF m 18 #[.val (.ref a1), .val (.int (70 : Int32)), .val (.ref b21)] []) (fun T A t k => XS.astoreN A B.x rfl (B.d d23_17) rfl rfl (l' := #[.val (.ref a1), .val (.int (70 : Int32)), .val (.ref b21)]) rfl k) ?_
  refine gs (mkF m 19 _ [(.ref a1)]) (fun T A t k => XS.aloadN A B.x rfl (B.d d23_18) rfl rfl k) ?_
  refine gs (mkF m 20 _ [(.int (0 : Int32)), (.ref a1)]) (fun T A t k => XS.iconst A B.x rfl (B.d d23_19) k) ?_
  refine gs (mkF m 21 _ [(.ref b21), (.int (0 : Int32)), (.ref a1)]) (fun T A t k => XS.aloadN A B.x rfl (B.d d23_20) rfl rfl k) ?_
  refine gs (mkF m 22 _ [(.int (0 : Int32)), (.ref b21), (.int (0 : Int32)), (.ref a1)]) (fun T A t k => XS.iconst A B.x rfl (B.d d23_21) k) ?_
  refine gs (mkF m 23 _ [(.ref a1), (.int (0 : Int32)), (.ref b21), (.int (0 : Int32)), (.ref a1)]) (fun T A t k => XS.aloadN A B.x rfl (B.d d23_22) rfl rfl k) ?_
  refine g_len B (PA.ext E21) d23_23 (q := 24) rfl ?_
  refine gs (mkF m 25 _ [(.int (70 : Int32)), (.int (34 : Int32)), (.int (0 : Int32)), (.ref b21), (.int (0 : Int32)), (.ref a1)]) (fun T A t k => XS.iloadN A B.x rfl (B.d d23_24) rfl k) ?_
  refine g_metN (c_static B (hw _ (List.mem_of_getElem? (i := 146) rfl)) (hw _ (List.mem_of_getElem? (i := 147) rfl)) (hw _ (List.mem_of_getElem? (i := 138) rfl)) (hw _ (List.mem_of_getElem? (i := 148) rfl)) (by decide) rfl (lenOf pd_28II29I rfl) rfl (Nat.le_of_eq rfl) d23_25 rfl (argsL := [(.int (34 : Int32)), (.int (70 : Int32))]) (rest := [(.int (0 : Int32)), (.ref b21), (.int (0 : Int32)), (.ref a1)]) (W := 4) (q := 28)) (n_min_34_70 l Z a0 hw hEL  h21 n0) (hw _ (List.mem_of_getElem? (i := 148) rfl)) (hw _ (List.mem_of_getElem? (i := 138) rfl)) (by decide) (by decide) (by decide) (by decide) ?_
  intro v22 h22 hz22 hQ22
  obtain ⟨rfl, rfl⟩ := hQ22
  refine g_cp (us := [v0, v1, v2, v3, v4, v5, v6, v7, v8, v9, v10, v11, v12, v13, v14, v15, v16, v17, v18, v19, v20, v21, v22, v23, v24, v25, v26, v27, v28, v29, v30, v31, v32, v33]) (vr := [v0, v1, v2, v3, v4, v5, v6, v7, v8, v9, v10, v11, v12, v13, v14, v15, v16, v17, v18, v19, v20, v21, v22, v23, v24, v25, v26, v27, v28, v29, v30, v31, v32, v33, (.int (0 : Int32)), (.int (0 : Int32)), (.int (0 : Int32)), (.int (0 : Int32)), (.int (0 : Int32)), (.int (0 : Int32)), (.int (0 : Int32)), (.int (0 : Int32)), (.int (0 : Int32)), (.int (0 : Int32)), (.int (0 : Int32)), (.int (0 : Int32)), (.int (0 : Int32)), (.int (0 : Int32)), (.int (0 : Int32)), (.int (0 : Int32)), (.int (0 : Int32)), (.int (0 : Int32)), (.int (0 : Int32)), (.int (0 : Int32)), (.int (0 : Int32)), (.int (0 : Int32)), (.int (0 : Int32)), (.int (0 : Int32)), (.int (0 : Int32)), (.int (0 : Int32)), (.int (0 : Int32)), (.int (0 : Int32)), (.int (0 : Int32)), (.int (0 : Int32)), (.int (0 : Int32)), (.int (0 : Int32)), (.int (0 : Int32)), (.int (0 : Int32)), (.int (0 : Int32)), (.int (0 : Int32))]) (W := 0) B (hw _ (List.mem_of_getElem? (i := 149) rfl)) (hw _ (List.mem_of_getElem? (i := 124) rfl)) (hw _ (List.mem_of_getElem? (i := 122) rfl)) (hw _ (List.mem_of_getElem? (i := 123) rfl)) (PA.ext E21) V21 (Or.inl ⟨rfl, rfl⟩) (by decide) (by decide) (by decide) (by decide) (by decide) rfl (Nat.le_of_ble_eq_true rfl) rfl rfl d23_28 (by decide) (Nat.le_of_eq rfl) (by decide) nos (by omega) (q := 31) rfl ?_
  intro h23 K23 V23
  have z23 := K23.1
  refine gs (mkF m 32 _ [(.ref b21)]) (fun T A t k => XS.aloadN A B.x rfl (B.d d23_31) rfl rfl k) ?_
  exact g_retA B rfl rfl d23_32 (by decide) (by decide) ⟨_, _, rfl, (((Keep.refl h0 []).ext E21).trans K23 (allS (Or.inr (by omega)) all0)), (by omega), V23⟩
set_option maxRecDepth 65536 in
set_option maxHeartbeats 40000000 in
theorem n_eci_34_35 (l : Launch) (Z : State) (a0 : Array Value) (hw : ∀ d ∈ tables_1, d.before a0 Z = true) (hEL : EW Z a0 []) (a1 : Addr) (zc : Int32) (rv : Value) (tb : Addr) (kb : ClassId) (v0 v1 v2 v3 v4 v5 v6 v7 v8 v9 v10 v11 v12 v13 v14 v15 v16 v17 v18 v19 v20 v21 v22 v23 v24 v25 v26 v27 v28 v29 v30 v31 v32 v33 : Value) (kk : Int32) (h0 : Heap) (n0 : Nat) (PB : SBN Z h0 a1 tb kb (34 : Int32) kk [v0, v1, v2, v3, v4, v5, v6, v7, v8, v9, v10, v11, v12, v13, v14, v15, v16, v17, v18, v19, v20, v21, v22, v23, v24, v25, v26, v27, v28, v29, v30, v31, v32, v33]) (hn : @LE.le Nat _ n0 h0.size) (hd : @LE.le Nat _ n0 a1) (PX : Sts Z zc rv) (PO : Old Z n0 h0) :
    Met false Z [] l (⟨"java/lang/AbstractStringBuilder", "ensureCapacityInternal", "(I)V"⟩ : MethodName) jdk_68_method_9_code 3 none ({ frames := 3, cells := 1, slots := 70, locals := 48 } : Room) #[(.ref a1), (.int (35 : Int32))] h0 [] n0 (fun v h => v = none ∧ Keep h0 h [a1] ∧ ∃ (t' : Addr) (k' : ClassId), @LE.le Nat _ h0.size t' ∧ SBN Z h a1 t' k' (70 : Int32) kk [v0, v1, v2, v3, v4, v5, v6, v7, v8, v9, v10, v11, v12, v13, v14, v15, v16, v17, v18, v19, v20, v21, v22, v23, v24, v25, v26, v27, v28, v29, v30, v31, v32, v33, (.int (0 : Int32)), (.int (0 : Int32)), (.int (0 : Int32)), (.int (0 : Int32)), (.int (0 : Int32)), (.int (0 : Int32)), (.int (0 : Int32)), (.int (0 : Int32)), (.int (0 : Int32)), (.int (0 : Int32)), (.int (0 : Int32)), (.int (0 : Int32)), (.int (0 : Int32)), (.int (0 : Int32)), (.int (0 : Int32)), (.int (0 : Int32)), (.int (0 : Int32)), (.int (0 : Int32)), (.int (0 : Int32)), (.int (0 : Int32)), (.int (0 : Int32)), (.int (0 : Int32)), (.int (0 : Int32)), (.int (0 : Int32)), (.int (0 : Int32)), (.int (0 : Int32)), (.int (0 : Int32)), (.int (0 : Int32)), (.int (0 : Int32)), (.int (0 : Int32)), (.int (0 : Int32)), (.int (0 : Int32)), (.int (0 : Int32)), (.int (0 : Int32)), (.int (0 : Int32)), (.int (0 : Int32))]) := by
  refine Met.of (a0 := a0) (Ls := #[.val (.ref a1), .val (.int (35 : Int32)), .unset]) (fun z => rfl) (plainFor_of_name pn_java_lang_AbstractStringBuilder) hEL (fun m => by first | (simp [entryFrame, mkF, argsToLocals, Value.category]; done) | rfl) ?_
  intro p e s m below meth c B hSf
  obtain ⟨SC, hzc, SF, rf⟩ := id PX
  obtain ⟨BE, BV, BC, BN, BA⟩ := id PB
  have hlt1 : @LT.lt Nat _ a1 h0.size := BE.lt
  refine gs (mkF m 1 _ [(.ref a1)]) (fun T A t k => XS.aloadN A B.x rfl (B.d d16_0) rfl rfl k) ?_
  refine g_getF B (hw _ (List.mem_of_getElem? (i := 71) rfl)) Via.refl BV d16_1 (q := 4) rfl ?_
  refine g_len B BA d16_4 (q := 5) rfl ?_
  refine gs (mkF m 6 _ [(.ref a1), (.int (34 : Int32))]) (fun T A t k => XS.aloadN A B.x rfl (B.d d16_5) rfl rfl k) ?_
  refine g_getF B (hw _ (List.mem_of_getElem? (i := 73) rfl)) Via.refl BC d16_6 (q := 9) rfl ?_
  refine gs (mkF m 10 _ [(.int (34 : Int32))]) (fun T A t k => XS.ishr A B.x rfl (B.d d16_9) rfl k) ?_
  refine gs (mkF m 11 #[.val (.ref a1), .val (.int (35 : Int32)), .val (.int (34 : Int32))] []) (fun T A t k => XS.istoreN A B.x rfl (B.d d16_10) rfl (l' := #[.val (.ref a1), .val (.int (35 : Int32)), .val (.int (34 : Int32))]) rfl k) ?_
  refine gs (mkF m 12 _ [(.int (35 : Int32))]) (fun T A t k => XS.iloadN A B.x rfl (B.d d16_11) rfl k) ?_
  refine gs (mkF m 13 _ [(.int (34 : Int32)), (.int (35 : Int32))]) (fun T A t k => XS.iloadN A B.x rfl (B.d d16_12) rfl k) ?_
  refine gs (mkF m 14 _ [(.int (1 : Int32))]) (fun T A t k => XS.isub A B.x rfl (B.d d16_13) rfl k) ?_
  refine gs (mkF m 17 _ []) (fun T A t k => XS.ifNo A B.x rfl (B.d d16_14) rfl ((if0 _ _).trans (tlt (by decide : (0 : Int32) < (1 : Int32))).2.2.2) k) ?_
  refine gs (mkF m 18 _ [(.ref a1)]) (fun T A t k => XS.aloadN A B.x rfl (B.d d16_17) rfl rfl k) ?_
  refine gs (mkF m 19 _ [(.ref a1), (.ref a1)]) (fun T A t k => XS.aloadN A B.x rfl (B.d d16_18) rfl rfl k) ?_
  refine g_getF B (hw _ (List.mem_of_getElem? (i := 71) rfl)) Via.refl BV d16_19 (q := 22) rfl ?_
  refine gs (mkF m 23 _ [(.ref a1), (.ref tb), (.ref a1)]) (fun T A t k => XS.aloadN A B.x rfl (B.d d16_22) rfl rfl k) ?_
  refine gs (mkF m 24 _ [(.int (35 : Int32)), (.ref a1), (.ref tb), (.ref a1)]) (fun T A t k => XS.iloadN A B.x rfl (B.d d16_23) rfl k) ?_
  refine g_metN (c_priv B BE (hw _ (List.mem_of_getElem? (i := 127) rfl)) (hw _ (List.mem_of_getElem? (i := 128) rfl)) (hw _ (List.mem_of_getElem? (i := 129) rfl)) (hw _ (List.mem_of_getElem? (i := 131) rfl)) (z := (⟨"java/lang/AbstractStringBuilder", "ensureCapacityInternal", "(I)V"⟩ : MethodName)) (hw _ (List.mem_of_getElem? (i := 103) rfl)) rfl (by decide) rfl (lenOf pd_28I29I rfl) rfl (Nat.le_of_eq rfl) d16_24 rfl (argsL := [(.int (35 : Int32))]) (rest := [(.ref tb), (.ref a1)]) (W := 2) (q := 27)) (n_sb_newCapacity_False_34_35 l Z a0 hw hEL a1 zc rv tb kb v0 v1 v2 v3 v4 v5 v6 v7 v8 v9 v10 v11 v12 v13 v14 v15 v16 v17 v18 v19 v20 v21 v22 v23 v24 v25 v26 v27 v28 v29 v30 v31 v32 v33 kk h0 n0 ⟨BE, BV, BC, BN, BA⟩ PX PO) (hw _ (List.mem_of_getElem? (i := 131) rfl)) (hw _ (List.mem_of_getElem? (i := 67) rfl)) (by decide) (by decide) (by decide) (by decide) ?_
  intro v21 h21 hz21 hQ21
  obtain ⟨rfl, rfl⟩ := hQ21
  refine gs (mkF m 28 _ [(.ref a1), (.int (70 : Int32)), (.ref tb), (.ref a1)]) (fun T A t k => XS.aloadN A B.x rfl (B.d d16_27) rfl rfl k) ?_
  refine g_getF B (hw _ (List.mem_of_getElem? (i := 73) rfl)) Via.refl BC d16_28 (q := 31) rfl ?_
  refine gs (mkF m 32 _ [(.int (70 : Int32)), (.ref tb), (.ref a1)]) (fun T A t k => XS.ishl A B.x rfl (B.d d16_31) rfl k) ?_
  refine g_metN (c_static B (hw _ (List.mem_of_getElem? (i := 142) rfl)) (hw _ (List.mem_of_getElem? (i := 143) rfl)) (hw _ (List.mem_of_getElem? (i := 144) rfl)) (hw _ (List.mem_of_getElem? (i := 145) rfl)) (by decide) rfl (lenOf pd_285bBI295bB rfl) rfl (Nat.le_of_eq rfl) d16_32 rfl (argsL := [(.ref tb), (.int (70 : Int32))]) (rest := [(.ref a1)]) (W := 1) (q := 35)) (n_copyOf_34_70 l Z a0 hw hEL tb kb v0 v1 v2 v3 v4 v5 v6 v7 v8 v9 v10 v11 v12 v13 v14 v15 v16 v17 v18 v19 v20 v21 v22 v23 v24 v25 v26 v27 v28 v29 v30 v31 v32 v33 h0 n0 BA (by omega)) (hw _ (List.mem_of_getElem? (i := 145) rfl)) (hw _ (List.mem_of_getElem? (i := 144) rfl)) (by decide) (by decide) (by decide) (by decide) ?_
  intro v22 h22 hz22 hQ22
  obtain ⟨x22, k22, rfl, K22, g22, V22⟩ := hQ22
  have z22 := K22.1; have y22 : @LT.lt Nat _ x22 h22.size := V22.lt
  refine g_putF B (hw _ (List.mem_of_getElem? (i := 71) rfl)) Via.refl (BV.keep K22 nin0) (BE.keep K22) (Or.inl (hw _ (List.mem_of_getElem? (i := 72) rfl))) (hw _ (List.mem_of_getElem? (i := 58) rfl)) (ty := (.array .byte)) (by decide) rfl rfl d16_35 nos (by omega) (q := 38) rfl ?_
  intro h23 W23 F23
  have z23 := W23.size
  exact g_ret0 B d16_38 (by decide) (by decide) ⟨rfl, (((Keep.refl h0 [a1]).trans K22 all0).wr W23 (Or.inl (by simp))), _, _, (by omega), ⟨((BE.keep K22).wr W23), F23, ((BC.keep K22 nin0).other W23 (Or.inr (slot_ne (Or.inl (hw _ (List.mem_of_getElem? (i := 74) rfl))) (Or.inl (hw _ (List.mem_of_getElem? (i := 72) rfl))) (by decide) (t := .byte) (t' := (.array .byte)) (by decide) (by decide)))), ((BN.keep K22 nin0).other W23 (Or.inr (slot_ne (Or.inl (hw _ (List.mem_of_getElem? (i := 99) rfl))) (Or.inl (hw _ (List.mem_of_getElem? (i := 72) rfl))) (by decide) (t := .int) (t' := (.array .byte)) (by decide) (by decide)))), (V22.other W23 (by omega : @Ne Nat x22 a1))⟩⟩
set_option maxRecDepth 65536 in
set_option maxHeartbeats 40000000 in
theorem n_infl_70 (l : Launch) (Z : State) (a0 : Array Value) (hw : ∀ d ∈ tables_1, d.before a0 Z = true) (hEL : EW Z a0 []) (a1 : Addr) (a2 : Addr) (zc : Int32) (rv : Value) (tb : Addr) (kb : ClassId) (v0 v1 v2 v3 v4 v5 v6 v7 v8 v9 v10 v11 v12 v13 v14 v15 v16 v17 v18 v19 v20 v21 v22 v23 v24 v25 v26 v27 v28 v29 v30 v31 v32 v33 v34 v35 v36 v37 v38 v39 v40 v41 v42 v43 v44 v45 v46 v47 v48 v49 v50 v51 v52 v53 v54 v55 v56 v57 v58 v59 v60 v61 v62 v63 v64 v65 v66 v67 v68 v69 : Value) (kk : Int32) (h0 : Heap) (n0 : Nat) (PB : SBN Z h0 a1 tb kb (70 : Int32) kk [v0, v1, v2, v3, v4, v5, v6, v7, v8, v9, v10, v11, v12, v13, v14, v15, v16, v17, v18, v19, v20, v21, v22, v23, v24, v25, v26, v27, v28, v29, v30, v31, v32, v33, v34, v35, v36, v37, v38, v39, v40, v41, v42, v43, v44, v45, v46, v47, v48, v49, v50, v51, v52, v53, v54, v55, v56, v57, v58, v59, v60, v61, v62, v63, v64, v65, v66, v67, v68, v69]) (PE2 : Exa Z h0 a2 "java/lang/String") (PC2 : Fld Z h0 a2 "java/lang/String" "coder" "B" (.int (0 : Int32))) (PX : Sts Z zc rv) (PO : Old Z n0 h0) :
    Met false Z [] l (⟨"java/lang/AbstractStringBuilder", "inflateIfNeededFor", "(Ljava/lang/String;)V"⟩ : MethodName) jdk_68_method_71_code 2 none ({ frames := 1, cells := 0, slots := 0, locals := 13 } : Room) #[(.ref a1), (.ref a2)] h0 [] n0 (fun v h => v = none ∧ h0 = h) := by
  refine Met.of (a0 := a0) (Ls := #[.val (.ref a1), .val (.ref a2)]) (fun z => rfl) (plainFor_of_name pn_java_lang_AbstractStringBuilder) hEL (fun m => by first | (simp [entryFrame, mkF, argsToLocals, Value.category]; done) | rfl) ?_
  intro p e s m below meth c B hSf
  obtain ⟨SC, hzc, SF, rf⟩ := id PX
  obtain ⟨BE, BV, BC, BN, BA⟩ := id PB
  refine g_getS B (hw _ (List.mem_of_getElem? (i := 70) rfl)) (SC.ext PO.2) d18_0 (q := 3) rfl ?_
  refine gs (mkF m 6 _ []) (fun T A t k => XS.ifNo A B.x rfl (B.d d18_3) rfl ((if0 _ _).trans (feq (hzc : ¬ (zc = (0 : Int32)))).1) k) ?_
  refine gs (mkF m 7 _ [(.ref a1)]) (fun T A t k => XS.aloadN A B.x rfl (B.d d18_6) rfl rfl k) ?_
  refine g_getF B (hw _ (List.mem_of_getElem? (i := 73) rfl)) Via.refl BC d18_7 (q := 10) rfl ?_
  refine gs (mkF m 11 _ [(.ref a2), (.int (0 : Int32))]) (fun T A t k => XS.aloadN A B.x rfl (B.d d18_10) rfl rfl k) ?_
  refine g_metN (c_virt B PE2 (hw _ (List.mem_of_getElem? (i := 115) rfl)) (hw _ (List.mem_of_getElem? (i := 94) rfl)) (hw _ (List.mem_of_getElem? (i := 96) rfl)) (hw _ (List.mem_of_getElem? (i := 95) rfl)) (nfs (z := (⟨"java/lang/String", "coder", "()B"⟩ : MethodName)) (hw _ (List.mem_of_getElem? (i := 96) rfl))) (by decide) rfl (lenOf pd_2829B rfl) rfl (Nat.le_of_eq rfl) d18_11 rfl (argsL := []) (rest := [(.int (0 : Int32))]) (W := 1) (q := 14)) (n_coder_0 l Z a0 hw hEL a2 zc rv h0 n0 PE2 PC2 PX PO) (hw _ (List.mem_of_getElem? (i := 97) rfl)) (hw _ (List.mem_of_getElem? (i := 4) rfl)) (by decide) (by decide) (by decide) (by decide) ?_
  intro v21 h21 hz21 hQ21
  obtain ⟨rfl, rfl⟩ := hQ21
  refine gs (mkF m 21 _ []) (fun T A t k => XS.icmpYes A B.x rfl (pc0 := 14) (pc' := 21) rfl (B.d d18_14) rfl (teq (by decide : (0 : Int32) = (0 : Int32))).1 (by decide) (by decide) k) ?_
  exact g_ret0 B d18_21 (by decide) (by decide) ⟨rfl, rfl⟩
set_option maxRecDepth 65536 in
set_option maxHeartbeats 40000000 in
theorem n_gby_70_19_16 (l : Launch) (Z : State) (a0 : Array Value) (hw : ∀ d ∈ tables_1, d.before a0 Z = true) (hEL : EW Z a0 []) (a1 : Addr) (a2 : Addr) (zc : Int32) (rv : Value) (t2 : Addr) (k2 kb : ClassId) (v0 v1 v2 v3 v4 v5 v6 v7 v8 v9 v10 v11 v12 v13 v14 v15 v16 v17 v18 v19 v20 v21 v22 v23 v24 v25 v26 v27 v28 v29 v30 v31 v32 v33 v34 v35 v36 v37 v38 v39 v40 v41 v42 v43 v44 v45 v46 v47 v48 v49 v50 v51 v52 v53 v54 v55 v56 v57 v58 v59 v60 v61 v62 v63 v64 v65 v66 v67 v68 v69 u0 u1 u2 u3 u4 u5 u6 u7 u8 u9 u10 u11 u12 u13 u14 u15 : Value) (h0 : Heap) (n0 : Nat) (PE2 : Exa Z h0 a1 "java/lang/String") (PC2 : Fld Z h0 a1 "java/lang/String" "coder" "B" (.int (0 : Int32))) (PV2 : Fld Z h0 a1 "java/lang/String" "value" "[B" (.ref t2)) (PA2 : Arv Z h0 t2 k2 .byte (16 : Int32) [u0, u1, u2, u3, u4, u5, u6, u7, u8, u9, u10, u11, u12, u13, u14, u15] (.int (0 : Int32))) (PD : Arv Z h0 a2 kb .byte (70 : Int32) [v0, v1, v2, v3, v4, v5, v6, v7, v8, v9, v10, v11, v12, v13, v14, v15, v16, v17, v18, v19, v20, v21, v22, v23, v24, v25, v26, v27, v28, v29, v30, v31, v32, v33, v34, v35, v36, v37, v38, v39, v40, v41, v42, v43, v44, v45, v46, v47, v48, v49, v50, v51, v52, v53, v54, v55, v56, v57, v58, v59, v60, v61, v62, v63, v64, v65, v66, v67, v68, v69] (.int (0 : Int32))) (hd : @LE.le Nat _ n0 a2) (PX : Sts Z zc rv) (PO : Old Z n0 h0) :
    Met false Z [] l (⟨"java/lang/String", "getBytes", "([BIB)V"⟩ : MethodName) jdk_42_method_147_code 4 none ({ frames := 1, cells := 0, slots := 0, locals := 18 } : Room) #[(.ref a1), (.ref a2), (.int (19 : Int32)), (.int (0 : Int32))] h0 [] n0 (fun v h => v = none ∧ Keep h0 h [a2] ∧ Arv Z h a2 kb .byte (70 : Int32) [v0, v1, v2, v3, v4, v5, v6, v7, v8, v9, v10, v11, v12, v13, v14, v15, v16, v17, v18, u0, u1, u2, u3, u4, u5, u6, u7, u8, u9, u10, u11, u12, u13, u14, u15, v35, v36, v37, v38, v39, v40, v41, v42, v43, v44, v45, v46, v47, v48, v49, v50, v51, v52, v53, v54, v55, v56, v57, v58, v59, v60, v61, v62, v63, v64, v65, v66, v67, v68, v69] (.int (0 : Int32))) := by
  refine Met.of (a0 := a0) (Ls := #[.val (.ref a1), .val (.ref a2), .val (.int (19 : Int32)), .val (.int (0 : Int32))]) (fun z => rfl) (plainFor_of_name pn_java_lang_String) hEL (fun m => by first | (simp [entryFrame, mkF, argsToLocals, Value.category]; done) | rfl) ?_
  intro p e s m below meth c B hSf
  obtain ⟨SC, hzc, SF, rf⟩ := id PX
  refine gs (mkF m 1 _ [(.ref a1)]) (fun T A t k => XS.aloadN A B.x rfl (B.d d19_0) rfl rfl k) ?_
  refine g_metN (c_virt B PE2 (hw _ (List.mem_of_getElem? (i := 93) rfl)) (hw _ (List.mem_of_getElem? (i := 94) rfl)) (hw _ (List.mem_of_getElem? (i := 96) rfl)) (hw _ (List.mem_of_getElem? (i := 95) rfl)) (nfs (z := (⟨"java/lang/String", "coder", "()B"⟩ : MethodName)) (hw _ (List.mem_of_getElem? (i := 96) rfl))) (by decide) rfl (lenOf pd_2829B rfl) rfl (Nat.le_of_eq rfl) d19_1 rfl (argsL := []) (rest := []) (W := 0) (q := 4)) (n_coder_0 l Z a0 hw hEL a1 zc rv h0 n0 PE2 PC2 PX PO) (hw _ (List.mem_of_getElem? (i := 97) rfl)) (hw _ (List.mem_of_getElem? (i := 4) rfl)) (by decide) (by decide) (by decide) (by decide) ?_
  intro v21 h21 hz21 hQ21
  obtain ⟨rfl, rfl⟩ := hQ21
  refine gs (mkF m 5 _ [(.int (0 : Int32)), (.int (0 : Int32))]) (fun T A t k => XS.iloadN A B.x rfl (B.d d19_4) rfl k) ?_
  refine gs (mkF m 8 _ []) (fun T A t k => XS.icmpNo A B.x rfl (B.d d19_5) rfl (teq (by decide : (0 : Int32) = (0 : Int32))).2 k) ?_
  refine gs (mkF m 9 _ [(.ref a1)]) (fun T A t k => XS.aloadN A B.x rfl (B.d d19_8) rfl rfl k) ?_
  refine g_getF B (hw _ (List.mem_of_getElem? (i := 29) rfl)) Via.refl PV2 d19_9 (q := 12) rfl ?_
  refine gs (mkF m 13 _ [(.int (0 : Int32)), (.ref t2)]) (fun T A t k => XS.iconst A B.x rfl (B.d d19_12) k) ?_
  refine gs (mkF m 14 _ [(.ref a2), (.int (0 : Int32)), (.ref t2)]) (fun T A t k => XS.aloadN A B.x rfl (B.d d19_13) rfl rfl k) ?_
  refine gs (mkF m 15 _ [(.int (19 : Int32)), (.ref a2), (.int (0 : Int32)), (.ref t2)]) (fun T A t k => XS.iloadN A B.x rfl (B.d d19_14) rfl k) ?_
  refine gs (mkF m 16 _ [(.int (0 : Int32)), (.int (19 : Int32)), (.ref a2), (.int (0 : Int32)), (.ref t2)]) (fun T A t k => XS.iloadN A B.x rfl (B.d d19_15) rfl k) ?_
  refine gs (mkF m 17 _ [(.int (19 : Int32)), (.ref a2), (.int (0 : Int32)), (.ref t2)]) (fun T A t k => XS.ishl A B.x rfl (B.d d19_16) rfl k) ?_
  refine gs (mkF m 18 _ [(.ref a1), (.int (19 : Int32)), (.ref a2), (.int (0 : Int32)), (.ref t2)]) (fun T A t k => XS.aloadN A B.x rfl (B.d d19_17) rfl rfl k) ?_
  refine g_getF B (hw _ (List.mem_of_getElem? (i := 29) rfl)) Via.refl PV2 d19_18 (q := 21) rfl ?_
  refine g_len B PA2 d19_21 (q := 22) rfl ?_
  refine g_cp (us := [u0, u1, u2, u3, u4, u5, u6, u7, u8, u9, u10, u11, u12, u13, u14, u15]) (vr := [v0, v1, v2, v3, v4, v5, v6, v7, v8, v9, v10, v11, v12, v13, v14, v15, v16, v17, v18, u0, u1, u2, u3, u4, u5, u6, u7, u8, u9, u10, u11, u12, u13, u14, u15, v35, v36, v37, v38, v39, v40, v41, v42, v43, v44, v45, v46, v47, v48, v49, v50, v51, v52, v53, v54, v55, v56, v57, v58, v59, v60, v61, v62, v63, v64, v65, v66, v67, v68, v69]) (W := 0) B (hw _ (List.mem_of_getElem? (i := 121) rfl)) (hw _ (List.mem_of_getElem? (i := 124) rfl)) (hw _ (List.mem_of_getElem? (i := 122) rfl)) (hw _ (List.mem_of_getElem? (i := 123) rfl)) PA2 PD (Or.inl ⟨rfl, rfl⟩) (by decide) (by decide) (by decide) (by decide) (by decide) rfl (Nat.le_of_ble_eq_true rfl) rfl rfl d19_22 (by decide) (Nat.le_of_eq rfl) (by decide) nos (by omega) (q := 25) rfl ?_
  intro h22 K22 V22
  have z22 := K22.1
  refine gs (mkF m 43 _ []) (fun T A t k => XS.goto A B.x rfl (pc0 := 25) (pc' := 43) rfl (B.d d19_25) (by decide) (by decide) k) ?_
  exact g_ret0 B d19_43 (by decide) (by decide) ⟨rfl, ((Keep.refl h0 [a2]).trans K22 (allS (Or.inl (by simp)) all0)), V22⟩
set_option maxRecDepth 65536 in
set_option maxHeartbeats 40000000 in
theorem n_psa_70_19_16 (l : Launch) (Z : State) (a0 : Array Value) (hw : ∀ d ∈ tables_1, d.before a0 Z = true) (hEL : EW Z a0 []) (a1 : Addr) (a2 : Addr) (zc : Int32) (rv : Value) (tb : Addr) (kb : ClassId) (v0 v1 v2 v3 v4 v5 v6 v7 v8 v9 v10 v11 v12 v13 v14 v15 v16 v17 v18 v19 v20 v21 v22 v23 v24 v25 v26 v27 v28 v29 v30 v31 v32 v33 v34 v35 v36 v37 v38 v39 v40 v41 v42 v43 v44 v45 v46 v47 v48 v49 v50 v51 v52 v53 v54 v55 v56 v57 v58 v59 v60 v61 v62 v63 v64 v65 v66 v67 v68 v69 : Value) (t2 : Addr) (k2 : ClassId) (u0 u1 u2 u3 u4 u5 u6 u7 u8 u9 u10 u11 u12 u13 u14 u15 : Value) (kk : Int32) (h0 : Heap) (n0 : Nat) (PB : SBN Z h0 a1 tb kb (70 : Int32) kk [v0, v1, v2, v3, v4, v5, v6, v7, v8, v9, v10, v11, v12, v13, v14, v15, v16, v17, v18, v19, v20, v21, v22, v23, v24, v25, v26, v27, v28, v29, v30, v31, v32, v33, v34, v35, v36, v37, v38, v39, v40, v41, v42, v43, v44, v45, v46, v47, v48, v49, v50, v51, v52, v53, v54, v55, v56, v57, v58, v59, v60, v61, v62, v63, v64, v65, v66, v67, v68, v69]) (PE2 : Exa Z h0 a2 "java/lang/String") (PC2 : Fld Z h0 a2 "java/lang/String" "coder" "B" (.int (0 : Int32))) (PV2 : Fld Z h0 a2 "java/lang/String" "value" "[B" (.ref t2)) (PA2 : Arv Z h0 t2 k2 .byte (16 : Int32) [u0, u1, u2, u3, u4, u5, u6, u7, u8, u9, u10, u11, u12, u13, u14, u15] (.int (0 : Int32))) (hd : @LE.le Nat _ n0 tb) (PX : Sts Z zc rv) (PO : Old Z n0 h0) :
    Met false Z [] l (⟨"java/lang/AbstractStringBuilder", "putStringAt", "(ILjava/lang/String;)V"⟩ : MethodName) jdk_68_method_73_code 3 none ({ frames := 2, cells := 0, slots := 0, locals := 33 } : Room) #[(.ref a1), (.int (19 : Int32)), (.ref a2)] h0 [] n0 (fun v h => v = none ∧ Keep h0 h [tb] ∧ Arv Z h tb kb .byte (70 : Int32) [v0, v1, v2, v3, v4, v5, v6, v7, v8, v9, v10, v11, v12, v13, v14, v15, v16, v17, v18, u0, u1, u2, u3, u4, u5, u6, u7, u8, u9, u10, u11, u12, u13, u14, u15, v35, v36, v37, v38, v39, v40, v41, v42, v43, v44, v45, v46, v47, v48, v49, v50, v51, v52, v53, v54, v55, v56, v57, v58, v59, v60, v61, v62, v63, v64, v65, v66, v67, v68, v69] (.int (0 : Int32))) := by
  refine Met.of (a0 := a0) (Ls := #[.val (.ref a1), .val (.int (19 : Int32)), .val (.ref a2)]) (fun z => rfl) (plainFor_of_name pn_java_lang_AbstractStringBuilder) hEL (fun m => by first | (simp [entryFrame, mkF, argsToLocals, Value.category]; done) | rfl) ?_
  intro p e s m below meth c B hSf
  obtain ⟨SC, hzc, SF, rf⟩ := id PX
  obtain ⟨BE, BV, BC, BN, BA⟩ := id PB
  refine gs (mkF m 1 _ [(.ref a1)]) (fun T A t k => XS.aloadN A B.x rfl (B.d d17_0) rfl rfl k) ?_
  refine gs (mkF m 2 _ [(.ref a2), (.ref a1)]) (fun T A t k => XS.aloadN A B.x rfl (B.d d17_1) rfl rfl k) ?_
  refine g_metN (c_priv B BE (hw _ (List.mem_of_getElem? (i := 110) rfl)) (hw _ (List.mem_of_getElem? (i := 111) rfl)) (hw _ (List.mem_of_getElem? (i := 112) rfl)) (hw _ (List.mem_of_getElem? (i := 114) rfl)) (z := (⟨"java/lang/AbstractStringBuilder", "ensureCapacityInternal", "(I)V"⟩ : MethodName)) (hw _ (List.mem_of_getElem? (i := 103) rfl)) rfl (by decide) rfl (lenOf pd_28Ljava2flang2fString3b29V rfl) rfl (Nat.le_of_eq rfl) d17_2 rfl (argsL := [(.ref a2)]) (rest := []) (W := 0) (q := 5)) (n_infl_70 l Z a0 hw hEL a1 a2 zc rv tb kb v0 v1 v2 v3 v4 v5 v6 v7 v8 v9 v10 v11 v12 v13 v14 v15 v16 v17 v18 v19 v20 v21 v22 v23 v24 v25 v26 v27 v28 v29 v30 v31 v32 v33 v34 v35 v36 v37 v38 v39 v40 v41 v42 v43 v44 v45 v46 v47 v48 v49 v50 v51 v52 v53 v54 v55 v56 v57 v58 v59 v60 v61 v62 v63 v64 v65 v66 v67 v68 v69 kk h0 n0 ⟨BE, BV, BC, BN, BA⟩ PE2 PC2 PX PO) (hw _ (List.mem_of_getElem? (i := 114) rfl)) (hw _ (List.mem_of_getElem? (i := 67) rfl)) (by decide) (by decide) (by decide) (by decide) ?_
  intro v21 h21 hz21 hQ21
  obtain ⟨rfl, rfl⟩ := hQ21
  refine gs (mkF m 6 _ [(.ref a2)]) (fun T A t k => XS.aloadN A B.x rfl (B.d d17_5) rfl rfl k) ?_
  refine gs (mkF m 7 _ [(.ref a1), (.ref a2)]) (fun T A t k => XS.aloadN A B.x rfl (B.d d17_6) rfl rfl k) ?_
  refine g_getF B (hw _ (List.mem_of_getElem? (i := 71) rfl)) Via.refl BV d17_7 (q := 10) rfl ?_
  refine gs (mkF m 11 _ [(.int (19 : Int32)), (.ref tb), (.ref a2)]) (fun T A t k => XS.iloadN A B.x rfl (B.d d17_10) rfl k) ?_
  refine gs (mkF m 12 _ [(.ref a1), (.int (19 : Int32)), (.ref tb), (.ref a2)]) (fun T A t k => XS.aloadN A B.x rfl (B.d d17_11) rfl rfl k) ?_
  refine g_getF B (hw _ (List.mem_of_getElem? (i := 73) rfl)) Via.refl BC d17_12 (q := 15) rfl ?_
  refine g_metN (c_virt B PE2 (hw _ (List.mem_of_getElem? (i := 116) rfl)) (hw _ (List.mem_of_getElem? (i := 117) rfl)) (hw _ (List.mem_of_getElem? (i := 119) rfl)) (hw _ (List.mem_of_getElem? (i := 118) rfl)) (nfs (z := (⟨"java/lang/String", "getBytes", "([BIB)V"⟩ : MethodName)) (hw _ (List.mem_of_getElem? (i := 119) rfl))) (by decide) rfl (lenOf pd_285bBIB29V rfl) rfl (Nat.le_of_eq rfl) d17_15 rfl (argsL := [(.ref tb), (.int (19 : Int32)), (.int (0 : Int32))]) (rest := []) (W := 0) (q := 18)) (n_gby_70_19_16 l Z a0 hw hEL a2 tb zc rv t2 k2 kb v0 v1 v2 v3 v4 v5 v6 v7 v8 v9 v10 v11 v12 v13 v14 v15 v16 v17 v18 v19 v20 v21 v22 v23 v24 v25 v26 v27 v28 v29 v30 v31 v32 v33 v34 v35 v36 v37 v38 v39 v40 v41 v42 v43 v44 v45 v46 v47 v48 v49 v50 v51 v52 v53 v54 v55 v56 v57 v58 v59 v60 v61 v62 v63 v64 v65 v66 v67 v68 v69 u0 u1 u2 u3 u4 u5 u6 u7 u8 u9 u10 u11 u12 u13 u14 u15 h0 n0 PE2 PC2 PV2 PA2 BA (by omega) PX PO) (hw _ (List.mem_of_getElem? (i := 120) rfl)) (hw _ (List.mem_of_getElem? (i := 4) rfl)) (by decide) (by decide) (by decide) (by decide) ?_
  intro v22 h22 hz22 hQ22
  obtain ⟨rfl, K22, V22⟩ := hQ22
  have z22 := K22.1
  exact g_ret0 B d17_18 (by decide) (by decide) ⟨rfl, ((Keep.refl h0 [tb]).trans K22 (allS (Or.inl (by simp)) all0)), V22⟩
set_option maxRecDepth 65536 in
set_option maxHeartbeats 40000000 in
theorem n_aapp_34_19_16 (l : Launch) (Z : State) (a0 : Array Value) (hw : ∀ d ∈ tables_1, d.before a0 Z = true) (hEL : EW Z a0 []) (a1 : Addr) (a2 : Addr) (zc : Int32) (rv : Value) (tb : Addr) (kb : ClassId) (v0 v1 v2 v3 v4 v5 v6 v7 v8 v9 v10 v11 v12 v13 v14 v15 v16 v17 v18 v19 v20 v21 v22 v23 v24 v25 v26 v27 v28 v29 v30 v31 v32 v33 : Value) (t2 : Addr) (k2 : ClassId) (u0 u1 u2 u3 u4 u5 u6 u7 u8 u9 u10 u11 u12 u13 u14 u15 : Value) (h0 : Heap) (n0 : Nat) (PB : SBN Z h0 a1 tb kb (34 : Int32) (19 : Int32) [v0, v1, v2, v3, v4, v5, v6, v7, v8, v9, v10, v11, v12, v13, v14, v15, v16, v17, v18, v19, v20, v21, v22, v23, v24, v25, v26, v27, v28, v29, v30, v31, v32, v33]) (PE2 : Exa Z h0 a2 "java/lang/String") (PC2 : Fld Z h0 a2 "java/lang/String" "coder" "B" (.int (0 : Int32))) (PV2 : Fld Z h0 a2 "java/lang/String" "value" "[B" (.ref t2)) (PA2 : Arv Z h0 t2 k2 .byte (16 : Int32) [u0, u1, u2, u3, u4, u5, u6, u7, u8, u9, u10, u11, u12, u13, u14, u15] (.int (0 : Int32))) (hn : @LE.le Nat _ n0 h0.size) (hd : @LE.le Nat _ n0 tb) (hd1 : @LE.le Nat _ n0 a1) (hne : @Ne Nat a1 tb) (hna : @Ne Nat a2 a1) (hnt : @Ne Nat t2 a1) (PX : Sts Z zc rv) (PO : Old Z n0 h0) :
    Met false Z [] l (⟨"java/lang/AbstractStringBuilder", "append", "(Ljava/lang/String;)Ljava/lang/AbstractStringBuilder;"⟩ : MethodName) jdk_68_method_22_code 3 (some (.object "java/lang/AbstractStringBuilder")) ({ frames := 4, cells := 1, slots := 70, locals := 62 } : Room) #[(.ref a1), (.ref a2)] h0 [] n0 (fun v h => v = some (.ref a1) ∧ Keep h0 h [a1] ∧ ∃ (t' : Addr) (k' : ClassId), @LE.le Nat _ h0.size t' ∧ SBN Z h a1 t' k' (70 : Int32) (35 : Int32) [v0, v1, v2, v3, v4, v5, v6, v7, v8, v9, v10, v11, v12, v13, v14, v15, v16, v17, v18, u0, u1, u2, u3, u4, u5, u6, u7, u8, u9, u10, u11, u12, u13, u14, u15, (.int (0 : Int32)), (.int (0 : Int32)), (.int (0 : Int32)), (.int (0 : Int32)), (.int (0 : Int32)), (.int (0 : Int32)), (.int (0 : Int32)), (.int (0 : Int32)), (.int (0 : Int32)), (.int (0 : Int32)), (.int (0 : Int32)), (.int (0 : Int32)), (.int (0 : Int32)), (.int (0 : Int32)), (.int (0 : Int32)), (.int (0 : Int32)), (.int (0 : Int32)), (.int (0 : Int32)), (.int (0 : Int32)), (.int (0 : Int32)), (.int (0 : Int32)), (.int (0 : Int32)), (.int (0 : Int32)), (.int (0 : Int32)), (.int (0 : Int32)), (.int (0 : Int32)), (.int (0 : Int32)), (.int (0 : Int32)), (.int (0 : Int32)), (.int (0 : Int32)), (.int (0 : Int32)), (.int (0 : Int32)), (.int (0 : Int32)), (.int (0 : Int32)), (.int (0 : Int32))]) := by
  refine Met.of (a0 := a0) (Ls := #[.val (.ref a1), .val (.ref a2), .unset]) (fun z => rfl) (plainFor_of_name pn_java_lang_AbstractStringBuilder) hEL (fun m => by first | (simp [entryFrame, mkF, argsToLocals, Value.category]; done) | rfl) ?_
  intro p e s m below meth c B hSf
  obtain ⟨SC, hzc, SF, rf⟩ := id PX
  obtain ⟨BE, BV, BC, BN, BA⟩ := id PB
  have hlt1 : @LT.lt Nat _ a1 h0.size := BE.lt; have hlt2 : @LT.lt Nat _ a2 h0.size := PE2.lt; have hlt3 : @LT.lt Nat _ t2 h0.size := PA2.lt
  refine gs (mkF m 1 _ [(.ref a2)]) (fun T A t k => XS.aloadN A B.x rfl (B.d d13_0) rfl rfl k) ?_
  refine gs (mkF m 9 _ []) (fun T A t k => XS.ifnonnullYes A B.x rfl (pc0 := 1) (pc' := 9) rfl (B.d d13_1) rfl (by decide) (by decide) k) ?_
  refine gs (mkF m 10 _ [(.ref a2)]) (fun T A t k => XS.aloadN A B.x rfl (B.d d13_9) rfl rfl k) ?_
  refine g_metN (c_virt B PE2 (hw _ (List.mem_of_getElem? (i := 88) rfl)) (hw _ (List.mem_of_getElem? (i := 89) rfl)) (hw _ (List.mem_of_getElem? (i := 91) rfl)) (hw _ (List.mem_of_getElem? (i := 90) rfl)) (nfs (z := (⟨"java/lang/String", "length", "()I"⟩ : MethodName)) (hw _ (List.mem_of_getElem? (i := 91) rfl))) (by decide) rfl (lenOf pd_2829I rfl) rfl (Nat.le_of_eq rfl) d13_10 rfl (argsL := []) (rest := []) (W := 0) (q := 13)) (n_slen_16 l Z a0 hw hEL a2 zc rv t2 k2 u0 u1 u2 u3 u4 u5 u6 u7 u8 u9 u10 u11 u12 u13 u14 u15 h0 n0 PE2 PC2 PV2 PA2 PX PO) (hw _ (List.mem_of_getElem? (i := 92) rfl)) (hw _ (List.mem_of_getElem? (i := 4) rfl)) (by decide) (by decide) (by decide) (by decide) ?_
  intro v21 h21 hz21 hQ21
  obtain ⟨rfl, rfl⟩ := hQ21
  refine gs (mkF m 14 #[.val (.ref a1), .val (.ref a2), .val (.int (16 : Int32))] []) (fun T A t k => XS.istoreN A B.x rfl (B.d d13_13) rfl (l' := #[.val (.ref a1), .val (.ref a2), .val (.int (16 : Int32))]) rfl k) ?_
  refine gs (mkF m 15 _ [(.ref a1)]) (fun T A t k => XS.aloadN A B.x rfl (B.d d13_14) rfl rfl k) ?_
  refine gs (mkF m 16 _ [(.ref a1), (.ref a1)]) (fun T A t k => XS.aloadN A B.x rfl (B.d d13_15) rfl rfl k) ?_
  refine g_getF B (hw _ (List.mem_of_getElem? (i := 98) rfl)) Via.refl BN d13_16 (q := 19) rfl ?_
  refine gs (mkF m 20 _ [(.int (16 : Int32)), (.int (19 : Int32)), (.ref a1)]) (fun T A t k => XS.iloadN A B.x rfl (B.d d13_19) rfl k) ?_
  refine gs (mkF m 21 _ [(.int (35 : Int32)), (.ref a1)]) (fun T A t k => XS.iadd A B.x rfl (B.d d13_20) rfl k) ?_
  refine g_metN (c_priv B BE (hw _ (List.mem_of_getElem? (i := 100) rfl)) (hw _ (List.mem_of_getElem? (i := 101) rfl)) (hw _ (List.mem_of_getElem? (i := 102) rfl)) (hw _ (List.mem_of_getElem? (i := 104) rfl)) (z := (⟨"java/lang/AbstractStringBuilder", "ensureCapacityInternal", "(I)V"⟩ : MethodName)) (hw _ (List.mem_of_getElem? (i := 103) rfl)) rfl (by decide) rfl (lenOf pd_28I29V rfl) rfl (Nat.le_of_eq rfl) d13_21 rfl (argsL := [(.int (35 : Int32))]) (rest := []) (W := 0) (q := 24)) (n_eci_34_35 l Z a0 hw hEL a1 zc rv tb kb v0 v1 v2 v3 v4 v5 v6 v7 v8 v9 v10 v11 v12 v13 v14 v15 v16 v17 v18 v19 v20 v21 v22 v23 v24 v25 v26 v27 v28 v29 v30 v31 v32 v33 (19 : Int32) h0 n0 ⟨BE, BV, BC, BN, BA⟩ (by omega) (by omega) PX PO) (hw _ (List.mem_of_getElem? (i := 104) rfl)) (hw _ (List.mem_of_getElem? (i := 67) rfl)) (by decide) (by decide) (by decide) (by decide) ?_
  intro v22 h22 hz22 hQ22
  obtain ⟨rfl, K22, t22, k22, g22, E22, F22v, F22c, F22n, V22⟩ := hQ22
  have z22 := K22.1; have y22 : @LT.lt Nat _ t22 h22.size := V22.lt
  refine gs (mkF m 25 _ [(.ref a1)]) (fun T A t k => XS.aloadN A B.x rfl (B.d d13_24) rfl rfl k) ?_
  refine gs (mkF m 26 _ [(.ref a1), (.ref a1)]) (fun T A t k => XS.aloadN A B.x rfl (B.d d13_25) rfl rfl k) ?_
  refine g_getF B (hw _ (List.mem_of_getElem? (i := 98) rfl)) Via.refl F22n d13_26 (q := 29) rfl ?_
  refine gs (mkF m 30 _ [(.ref a2), (.int (19 : Int32)), (.ref a1)]) (fun T A t k => XS.aloadN A B.x rfl (B.d d13_29) rfl rfl k) ?_
  refine g_metN (c_priv B E22 (hw _ (List.mem_of_getElem? (i := 105) rfl)) (hw _ (List.mem_of_getElem? (i := 106) rfl)) (hw _ (List.mem_of_getElem? (i := 107) rfl)) (hw _ (List.mem_of_getElem? (i := 109) rfl)) (z := (⟨"java/lang/AbstractStringBuilder", "ensureCapacityInternal", "(I)V"⟩ : MethodName)) (hw _ (List.mem_of_getElem? (i := 103) rfl)) rfl (by decide) rfl (lenOf pd_28ILjava2flang2fString3b29V rfl) rfl (Nat.le_of_eq rfl) d13_30 rfl (argsL := [(.int (19 : Int32)), (.ref a2)]) (rest := []) (W := 0) (q := 33)) (n_psa_70_19_16 l Z a0 hw hEL a1 a2 zc rv t22 k22 v0 v1 v2 v3 v4 v5 v6 v7 v8 v9 v10 v11 v12 v13 v14 v15 v16 v17 v18 v19 v20 v21 v22 v23 v24 v25 v26 v27 v28 v29 v30 v31 v32 v33 (.int (0 : Int32)) (.int (0 : Int32)) (.int (0 : Int32)) (.int (0 : Int32)) (.int (0 : Int32)) (.int (0 : Int32)) (.int (0 : Int32)) (.int (0 : Int32)) (.int (0 : Int32)) (.int (0 : Int32)) (.int (0 : Int32)) (.int (0 : Int32)) (.int (0 : Int32)) (.int (0 : Int32)) (.int (0 : Int32)) (.int (0 : Int32)) (.int (0 : Int32)) (.int (0 : Int32)) (.int (0 : Int32)) (.int (0 : Int32)) (.int (0 : Int32)) (.int (0 : Int32)) (.int (0 : Int32)) (.int (0 : Int32)) (.int (0 : Int32)) (.int (0 : Int32)) (.int (0 : Int32)) (.int (0 : Int32)) (.int (0 : Int32)) (.int (0 : Int32)) (.int (0 : Int32)) (.int (0 : Int32)) (.int (0 : Int32)) (.int (0 : Int32)) (.int (0 : Int32)) (.int (0 : Int32)) t2 k2 u0 u1 u2 u3 u4 u5 u6 u7 u8 u9 u10 u11 u12 u13 u14 u15 (19 : Int32) h22 n0 ⟨E22, F22v, F22c, F22n, V22⟩ (PE2.keep K22) (PC2.keep K22 (ninS (by omega : @Ne Nat a2 a1) nin0)) (PV2.keep K22 (ninS (by omega : @Ne Nat a2 a1) nin0)) (PA2.keep K22 (ninS (by omega : @Ne Nat t2 a1) nin0)) (by omega) PX (PO.keep K22 (allS (by omega) all0))) (hw _ (List.mem_of_getElem? (i := 109) rfl)) (hw _ (List.mem_of_getElem? (i := 67) rfl)) (by decide) (by decide) (by decide) (by decide) ?_
  intro v23 h23 hz23 hQ23
  obtain ⟨rfl, K23, V23⟩ := hQ23
  have z23 := K23.1
  refine gs (mkF m 34 _ [(.ref a1)]) (fun T A t k => XS.aloadN A B.x rfl (B.d d13_33) rfl rfl k) ?_
  refine gs (mkF m 35 _ [(.ref a1), (.ref a1)]) (fun T A t k => XS.dup A B.x rfl (B.d d13_34) rfl rfl k) ?_
  refine g_getF B (hw _ (List.mem_of_getElem? (i := 98) rfl)) Via.refl (F22n.keep K23 (ninS (by omega : @Ne Nat a1 t22) nin0)) d13_35 (q := 38) rfl ?_
  refine gs (mkF m 39 _ [(.int (16 : Int32)), (.int (19 : Int32)), (.ref a1)]) (fun T A t k => XS.iloadN A B.x rfl (B.d d13_38) rfl k) ?_
  refine gs (mkF m 40 _ [(.int (35 : Int32)), (.ref a1)]) (fun T A t k => XS.iadd A B.x rfl (B.d d13_39) rfl k) ?_
  refine g_putF B (hw _ (List.mem_of_getElem? (i := 98) rfl)) Via.refl (F22n.keep K23 (ninS (by omega : @Ne Nat a1 t22) nin0)) (E22.keep K23) (Or.inl (hw _ (List.mem_of_getElem? (i := 99) rfl))) (hw _ (List.mem_of_getElem? (i := 58) rfl)) (ty := .int) (by decide) rfl rfl d13_40 nos (by omega) (q := 43) rfl ?_
  intro h24 W24 F24
  have z24 := W24.size
  refine gs (mkF m 44 _ [(.ref a1)]) (fun T A t k => XS.aloadN A B.x rfl (B.d d13_43) rfl rfl k) ?_
  exact g_retA B rfl rfl d13_44 (by decide) (by decide) ⟨rfl, ((((Keep.refl h0 [a1]).trans K22 (allS (Or.inl (by simp)) all0)).trans K23 (allS (Or.inr (by omega)) all0)).wr W24 (Or.inl (by simp))), _, _, (by omega), ⟨((E22.keep K23).wr W24), ((F22v.keep K23 (ninS (by omega : @Ne Nat a1 t22) nin0)).other W24 (Or.inr (slot_ne (Or.inl (hw _ (List.mem_of_getElem? (i := 72) rfl))) (Or.inl (hw _ (List.mem_of_getElem? (i := 99) rfl))) (by decide) (t := (.array .byte)) (t' := .int) (by decide) (by decide)))), ((F22c.keep K23 (ninS (by omega : @Ne Nat a1 t22) nin0)).other W24 (Or.inr (slot_ne (Or.inl (hw _ (List.mem_of_getElem? (i := 74) rfl))) (Or.inl (hw _ (List.mem_of_getElem? (i := 99) rfl))) (by decide) (t := .byte) (t' := .int) (by decide) (by decide)))), F24, (V23.other W24 (by omega : @Ne Nat t22 a1))⟩⟩
set_option maxRecDepth 65536 in
set_option maxHeartbeats 40000000 in
theorem n_sapp_34_19_16 (l : Launch) (Z : State) (a0 : Array Value) (hw : ∀ d ∈ tables_1, d.before a0 Z = true) (hEL : EW Z a0 []) (a1 : Addr) (a2 : Addr) (zc : Int32) (rv : Value) (tb : Addr) (kb : ClassId) (v0 v1 v2 v3 v4 v5 v6 v7 v8 v9 v10 v11 v12 v13 v14 v15 v16 v17 v18 v19 v20 v21 v22 v23 v24 v25 v26 v27 v28 v29 v30 v31 v32 v33 : Value) (t2 : Addr) (k2 : ClassId) (u0 u1 u2 u3 u4 u5 u6 u7 u8 u9 u10 u11 u12 u13 u14 u15 : Value) (h0 : Heap) (n0 : Nat) (PB : SBN Z h0 a1 tb kb (34 : Int32) (19 : Int32) [v0, v1, v2, v3, v4, v5, v6, v7, v8, v9, v10, v11, v12, v13, v14, v15, v16, v17, v18, v19, v20, v21, v22, v23, v24, v25, v26, v27, v28, v29, v30, v31, v32, v33]) (PE2 : Exa Z h0 a2 "java/lang/String") (PC2 : Fld Z h0 a2 "java/lang/String" "coder" "B" (.int (0 : Int32))) (PV2 : Fld Z h0 a2 "java/lang/String" "value" "[B" (.ref t2)) (PA2 : Arv Z h0 t2 k2 .byte (16 : Int32) [u0, u1, u2, u3, u4, u5, u6, u7, u8, u9, u10, u11, u12, u13, u14, u15] (.int (0 : Int32))) (hn : @LE.le Nat _ n0 h0.size) (hd : @LE.le Nat _ n0 tb) (hd1 : @LE.le Nat _ n0 a1) (hne : @Ne Nat a1 tb) (hna : @Ne Nat a2 a1) (hnt : @Ne Nat t2 a1) (PX : Sts Z zc rv) (PO : Old Z n0 h0) :
    Met false Z [] l (⟨"java/lang/StringBuilder", "append", "(Ljava/lang/String;)Ljava/lang/StringBuilder;"⟩ : MethodName) jdk_67_method_7_code 2 (some (.object "java/lang/StringBuilder")) ({ frames := 5, cells := 1, slots := 70, locals := 76 } : Room) #[(.ref a1), (.ref a2)] h0 [] n0 (fun v h => v = some (.ref a1) ∧ Keep h0 h [a1] ∧ ∃ (t' : Addr) (k' : ClassId), @LE.le Nat _ h0.size t' ∧ SBN Z h a1 t' k' (70 : Int32) (35 : Int32) [v0, v1, v2, v3, v4, v5, v6, v7, v8, v9, v10, v11, v12, v13, v14, v15, v16, v17, v18, u0, u1, u2, u3, u4, u5, u6, u7, u8, u9, u10, u11, u12, u13, u14, u15, (.int (0 : Int32)), (.int (0 : Int32)), (.int (0 : Int32)), (.int (0 : Int32)), (.int (0 : Int32)), (.int (0 : Int32)), (.int (0 : Int32)), (.int (0 : Int32)), (.int (0 : Int32)), (.int (0 : Int32)), (.int (0 : Int32)), (.int (0 : Int32)), (.int (0 : Int32)), (.int (0 : Int32)), (.int (0 : Int32)), (.int (0 : Int32)), (.int (0 : Int32)), (.int (0 : Int32)), (.int (0 : Int32)), (.int (0 : Int32)), (.int (0 : Int32)), (.int (0 : Int32)), (.int (0 : Int32)), (.int (0 : Int32)), (.int (0 : Int32)), (.int (0 : Int32)), (.int (0 : Int32)), (.int (0 : Int32)), (.int (0 : Int32)), (.int (0 : Int32)), (.int (0 : Int32)), (.int (0 : Int32)), (.int (0 : Int32)), (.int (0 : Int32)), (.int (0 : Int32))]) := by
  refine Met.of (a0 := a0) (Ls := #[.val (.ref a1), .val (.ref a2)]) (fun z => rfl) (plainFor_of_name pn_java_lang_StringBuilder) hEL (fun m => by first | (simp [entryFrame, mkF, argsToLocals, Value.category]; done) | rfl) ?_
  intro p e s m below meth c B hSf
  obtain ⟨SC, hzc, SF, rf⟩ := id PX
  obtain ⟨BE, BV, BC, BN, BA⟩ := id PB
  have hlt1 : @LT.lt Nat _ a1 h0.size := BE.lt; have hlt2 : @LT.lt Nat _ a2 h0.size := PE2.lt; have hlt3 : @LT.lt Nat _ t2 h0.size := PA2.lt
  refine gs (mkF m 1 _ [(.ref a1)]) (fun T A t k => XS.aloadN A B.x rfl (B.d d12_0) rfl rfl k) ?_
  refine gs (mkF m 2 _ [(.ref a2), (.ref a1)]) (fun T A t k => XS.aloadN A B.x rfl (B.d d12_1) rfl rfl k) ?_
  refine g_metN (c_super B BE (hw _ (List.mem_of_getElem? (i := 83) rfl)) (sameM (hw _ (List.mem_of_getElem? (i := 84) rfl)) (hw _ (List.mem_of_getElem? (i := 103) rfl)) rfl (by decide)) (hw _ (List.mem_of_getElem? (i := 84) rfl)) (hw _ (List.mem_of_getElem? (i := 85) rfl)) (by decide) (hw _ (List.mem_of_getElem? (i := 87) rfl)) rfl (lenOf pd_28Ljava2flang2fString3b29Ljava2flang2fAbstractStringBuilder3b rfl) rfl (Nat.le_of_eq rfl) d12_2 rfl (argsL := [(.ref a2)]) (rest := []) (W := 0) (q := 5)) (n_aapp_34_19_16 l Z a0 hw hEL a1 a2 zc rv tb kb v0 v1 v2 v3 v4 v5 v6 v7 v8 v9 v10 v11 v12 v13 v14 v15 v16 v17 v18 v19 v20 v21 v22 v23 v24 v25 v26 v27 v28 v29 v30 v31 v32 v33 t2 k2 u0 u1 u2 u3 u4 u5 u6 u7 u8 u9 u10 u11 u12 u13 u14 u15 h0 n0 ⟨BE, BV, BC, BN, BA⟩ PE2 PC2 PV2 PA2 (by omega) (by omega) (by omega) (by omega) (by omega) (by omega) PX PO) (hw _ (List.mem_of_getElem? (i := 87) rfl)) (hw _ (List.mem_of_getElem? (i := 67) rfl)) (by decide) (by decide) (by decide) (by decide) ?_
  intro v21 h21 hz21 hQ21
  obtain ⟨rfl, K9, t9, k9, g9, B9⟩ := hQ21
  refine gs (mkF m 6 _ []) (fun T A t k => XS.pop A B.x rfl (B.d d12_5) rfl rfl k) ?_
  refine gs (mkF m 7 _ [(.ref a1)]) (fun T A t k => XS.aloadN A B.x rfl (B.d d12_6) rfl rfl k) ?_
  exact g_retA B rfl rfl d12_7 (by decide) (by decide) ⟨rfl, K9, _, _, g9, B9⟩
theorem d9_21 : decode prog_15_method_7_code 21 = .ok (.invokevirtual 40, 3) := by decide +kernel
theorem d25_0 : decode jdk_67_method_42_code 0 = .ok (.new 18, 3) := by decide +kernel
theorem d25_3 : decode jdk_67_method_42_code 3 = .ok (.dup, 1) := by decide +kernel
theorem d25_4 : decode jdk_67_method_42_code 4 = .ok (.aload_n 0, 1) := by decide +kernel
theorem d26_0 : decode jdk_42_method_53_code 0 = .ok (.aload_n 0, 1) := by decide +kernel
theorem d26_1 : decode jdk_42_method_53_code 1 = .ok (.aload_n 1, 1) := by decide +kernel
theorem d26_2 : decode jdk_42_method_53_code 2 = .ok (.aconst_null, 1) := by decide +kernel
theorem d27_0 : decode jdk_42_method_150_code 0 = .ok (.aload_n 0, 1) := by decide +kernel
theorem d27_1 : decode jdk_42_method_150_code 1 = .ok (.invokespecial 1, 3) := by decide +kernel
theorem d27_4 : decode jdk_42_method_150_code 4 = .ok (.aload_n 1, 1) := by decide +kernel
theorem d28_0 : decode jdk_68_method_64_code 0 = .ok (.aload_n 0, 1) := by decide +kernel
theorem d28_1 : decode jdk_68_method_64_code 1 = .ok (.getfield 15, 3) := by decide +kernel
theorem d28_4 : decode jdk_68_method_64_code 4 = .ok (.areturn, 1) := by decide +kernel
set_option maxRecDepth 65536 in
set_option maxHeartbeats 40000000 in
theorem n_sb_getValue_False_70 (l : Launch) (Z : State) (a0 : Array Value) (hw : ∀ d ∈ tables_1, d.before a0 Z = true) (hEL : EW Z a0 []) (a1 : Addr) (zc : Int32) (rv : Value) (tb : Addr) (kb : ClassId) (v0 v1 v2 v3 v4 v5 v6 v7 v8 v9 v10 v11 v12 v13 v14 v15 v16 v17 v18 v19 v20 v21 v22 v23 v24 v25 v26 v27 v28 v29 v30 v31 v32 v33 v34 v35 v36 v37 v38 v39 v40 v41 v42 v43 v44 v45 v46 v47 v48 v49 v50 v51 v52 v53 v54 v55 v56 v57 v58 v59 v60 v61 v62 v63 v64 v65 v66 v67 v68 v69 : Value) (kk : Int32) (h0 : Heap) (n0 : Nat) (PB : SBN Z h0 a1 tb kb (70 : Int32) kk [v0, v1, v2, v3, v4, v5, v6, v7, v8, v9, v10, v11, v12, v13, v14, v15, v16, v17, v18, v19, v20, v21, v22, v23, v24, v25, v26, v27, v28, v29, v30, v31, v32, v33, v34, v35, v36, v37, v38, v39, v40, v41, v42, v43, v44, v45, v46, v47, v48, v49, v50, v51, v52, v53, v54, v55, v56, v57, v58, v59, v60, v61, v62, v63, v64, v65, v66, v67, v68, v69]) (PX : Sts Z zc rv) (PO : Old Z n0 h0) :
    Met false Z [] l (⟨"java/lang/AbstractStringBuilder", "getValue", "()[B"⟩ : MethodName) jdk_68_method_64_code 1 (some (.array .byte)) ({ frames := 0, cells := 0, slots := 0, locals := 0 } : Room) #[(.ref a1)] h0 [] n0 (fun v h => v = some (.ref tb) ∧ h0 = h) := by
  refine Met.of (a0 := a0) (Ls := #[.val (.ref a1)]) (fun z => rfl) (plainFor_of_name pn_java_lang_AbstractStringBuilder) hEL (fun m => by first | (simp [entryFrame, mkF, argsToLocals, Value.category]; done) | rfl) ?_
  intro p e s m below meth c B hSf
  obtain ⟨SC, hzc, SF, rf⟩ := id PX
  obtain ⟨BE, BV, BC, BN, BA⟩ := id PB
  refine gs (mkF m 1 _ [(.ref a1)]) (fun T A t k => XS.aloadN A B.x rfl (B.d d28_0) rfl rfl k) ?_
  refine g_getF B (hw _ (List.mem_of_getElem? (i := 71) rfl)) Via.refl BV d28_1 (q := 4) rfl ?_
  exact g_retA B rfl rfl d28_4 (by decide) (by decide) ⟨rfl, rfl⟩
theorem pd_28295bB : parseMethodDescriptor "()[B" = some ⟨[], some (.array .byte)⟩ := by decide +kernel
theorem d27_5 : decode jdk_42_method_150_code 5 = .ok (.invokevirtual 552, 3) := by decide +kernel
theorem d27_8 : decode jdk_42_method_150_code 8 = .ok (.astore_n 3, 1) := by decide +kernel
theorem d27_9 : decode jdk_42_method_150_code 9 = .ok (.aload_n 1, 1) := by decide +kernel
theorem d29_0 : decode jdk_67_method_93_code 0 = .ok (.aload_n 0, 1) := by decide +kernel
theorem d30_0 : decode jdk_68_method_6_code 0 = .ok (.aload_n 0, 1) := by decide +kernel
theorem d30_1 : decode jdk_68_method_6_code 1 = .ok (.getfield 79, 3) := by decide +kernel
theorem d30_4 : decode jdk_68_method_6_code 4 = .ok (.ireturn, 1) := by decide +kernel
set_option maxRecDepth 65536 in
set_option maxHeartbeats 40000000 in
theorem n_sb_length_False_70 (l : Launch) (Z : State) (a0 : Array Value) (hw : ∀ d ∈ tables_1, d.before a0 Z = true) (hEL : EW Z a0 []) (a1 : Addr) (zc : Int32) (rv : Value) (tb : Addr) (kb : ClassId) (v0 v1 v2 v3 v4 v5 v6 v7 v8 v9 v10 v11 v12 v13 v14 v15 v16 v17 v18 v19 v20 v21 v22 v23 v24 v25 v26 v27 v28 v29 v30 v31 v32 v33 v34 v35 v36 v37 v38 v39 v40 v41 v42 v43 v44 v45 v46 v47 v48 v49 v50 v51 v52 v53 v54 v55 v56 v57 v58 v59 v60 v61 v62 v63 v64 v65 v66 v67 v68 v69 : Value) (kk : Int32) (h0 : Heap) (n0 : Nat) (PB : SBN Z h0 a1 tb kb (70 : Int32) kk [v0, v1, v2, v3, v4, v5, v6, v7, v8, v9, v10, v11, v12, v13, v14, v15, v16, v17, v18, v19, v20, v21, v22, v23, v24, v25, v26, v27, v28, v29, v30, v31, v32, v33, v34, v35, v36, v37, v38, v39, v40, v41, v42, v43, v44, v45, v46, v47, v48, v49, v50, v51, v52, v53, v54, v55, v56, v57, v58, v59, v60, v61, v62, v63, v64, v65, v66, v67, v68, v69]) (PX : Sts Z zc rv) (PO : Old Z n0 h0) :
    Met false Z [] l (⟨"java/lang/AbstractStringBuilder", "length", "()I"⟩ : MethodName) jdk_68_method_6_code 1 (some .int) ({ frames := 0, cells := 0, slots := 0, locals := 0 } : Room) #[(.ref a1)] h0 [] n0 (fun v h => v = some (.int kk) ∧ h0 = h) := by
  refine Met.of (a0 := a0) (Ls := #[.val (.ref a1)]) (fun z => rfl) (plainFor_of_name pn_java_lang_AbstractStringBuilder) hEL (fun m => by first | (simp [entryFrame, mkF, argsToLocals, Value.category]; done) | rfl) ?_
  intro p e s m below meth c B hSf
  obtain ⟨SC, hzc, SF, rf⟩ := id PX
  obtain ⟨BE, BV, BC, BN, BA⟩ := id PB
  refine gs (mkF m 1 _ [(.ref a1)]) (fun T A t k => XS.aloadN A B.x rfl (B.d d30_0) rfl rfl k) ?_
  refine g_getF B (hw _ (List.mem_of_getElem? (i := 98) rfl)) Via.refl BN d30_1 (q := 4) rfl ?_
  exact g_retI B d30_4 (by decide) (by decide) ⟨rfl, rfl⟩
theorem d29_1 : decode jdk_67_method_93_code 1 = .ok (.invokespecial 343, 3) := by decide +kernel
theorem d29_4 : decode jdk_67_method_93_code 4 = .ok (.ireturn, 1) := by decide +kernel
set_option maxRecDepth 65536 in
set_option maxHeartbeats 40000000 in
theorem n_sb_length_True_70 (l : Launch) (Z : State) (a0 : Array Value) (hw : ∀ d ∈ tables_1, d.before a0 Z = true) (hEL : EW Z a0 []) (a1 : Addr) (zc : Int32) (rv : Value) (tb : Addr) (kb : ClassId) (v0 v1 v2 v3 v4 v5 v6 v7 v8 v9 v10 v11 v12 v13 v14 v15 v16 v17 v18 v19 v20 v21 v22 v23 v24 v25 v26 v27 v28 v29 v30 v31 v32 v33 v34 v35 v36 v37 v38 v39 v40 v41 v42 v43 v44 v45 v46 v47 v48 v49 v50 v51 v52 v53 v54 v55 v56 v57 v58 v59 v60 v61 v62 v63 v64 v65 v66 v67 v68 v69 : Value) (kk : Int32) (h0 : Heap) (n0 : Nat) (PB : SBN Z h0 a1 tb kb (70 : Int32) kk [v0, v1, v2, v3, v4, v5, v6, v7, v8, v9, v10, v11, v12, v13, v14, v15, v16, v17, v18, v19, v20, v21, v22, v23, v24, v25, v26, v27, v28, v29, v30, v31, v32, v33, v34, v35, v36, v37, v38, v39, v40, v41, v42, v43, v44, v45, v46, v47, v48, v49, v50, v51, v52, v53, v54, v55, v56, v57, v58, v59, v60, v61, v62, v63, v64, v65, v66, v67, v68, v69]) (PX : Sts Z zc rv) (PO : Old Z n0 h0) :
    Met false Z [] l (⟨"java/lang/StringBuilder", "length", "()I"⟩ : MethodName) jdk_67_method_93_code 1 (some .int) ({ frames := 1, cells := 0, slots := 0, locals := 12 } : Room) #[(.ref a1)] h0 [] n0 (fun v h => v = some (.int kk) ∧ h0 = h) := by
  refine Met.of (a0 := a0) (Ls := #[.val (.ref a1)]) (fun z => rfl) (plainFor_of_name pn_java_lang_StringBuilder) hEL (fun m => by first | (simp [entryFrame, mkF, argsToLocals, Value.category]; done) | rfl) ?_
  intro p e s m below meth c B hSf
  obtain ⟨SC, hzc, SF, rf⟩ := id PX
  obtain ⟨BE, BV, BC, BN, BA⟩ := id PB
  refine gs (mkF m 1 _ [(.ref a1)]) (fun T A t k => XS.aloadN A B.x rfl (B.d d29_0) rfl rfl k) ?_
  refine g_metN (c_super B BE (hw _ (List.mem_of_getElem? (i := 174) rfl)) (sameM (hw _ (List.mem_of_getElem? (i := 170) rfl)) (hw _ (List.mem_of_getElem? (i := 103) rfl)) rfl (by decide)) (hw _ (List.mem_of_getElem? (i := 170) rfl)) (hw _ (List.mem_of_getElem? (i := 85) rfl)) (by decide) (hw _ (List.mem_of_getElem? (i := 175) rfl)) rfl (lenOf pd_2829I rfl) rfl (Nat.le_of_eq rfl) d29_1 rfl (argsL := []) (rest := []) (W := 0) (q := 4)) (n_sb_length_False_70 l Z a0 hw hEL a1 zc rv tb kb v0 v1 v2 v3 v4 v5 v6 v7 v8 v9 v10 v11 v12 v13 v14 v15 v16 v17 v18 v19 v20 v21 v22 v23 v24 v25 v26 v27 v28 v29 v30 v31 v32 v33 v34 v35 v36 v37 v38 v39 v40 v41 v42 v43 v44 v45 v46 v47 v48 v49 v50 v51 v52 v53 v54 v55 v56 v57 v58 v59 v60 v61 v62 v63 v64 v65 v66 v67 v68 v69 kk h0 n0 ⟨BE, BV, BC, BN, BA⟩ PX PO) (hw _ (List.mem_of_getElem? (i := 175) rfl)) (hw _ (List.mem_of_getElem? (i := 67) rfl)) (by decide) (by decide) (by decide) (by decide) ?_
  intro v21 h21 hz21 hQ21
  obtain ⟨rfl, rfl⟩ := hQ21
  exact g_retI B d29_4 (by decide) (by decide) ⟨rfl, rfl⟩
theorem d27_10 : decode jdk_42_method_150_code 10 = .ok (.invokevirtual 549, 3) := by decide +kernel
theorem d27_13 : decode jdk_42_method_150_code 13 = .ok (.istore 4, 2) := by decide +kernel
theorem d27_15 : decode jdk_42_method_150_code 15 = .ok (.aload_n 1, 1) := by decide +kernel
theorem d31_0 : decode jdk_68_method_68_code 0 = .ok (.getstatic 18, 3) := by decide +kernel
theorem d31_3 : decode jdk_68_method_68_code 3 = .ok (.ifCond .eq 14, 3) := by decide +kernel
theorem d31_6 : decode jdk_68_method_68_code 6 = .ok (.aload_n 0, 1) := by decide +kernel
theorem d31_7 : decode jdk_68_method_68_code 7 = .ok (.getfield 22, 3) := by decide +kernel
theorem d31_10 : decode jdk_68_method_68_code 10 = .ok (.ifCond .ne 7, 3) := by decide +kernel
theorem d31_13 : decode jdk_68_method_68_code 13 = .ok (.iconst 1, 1) := by decide +kernel
theorem d31_14 : decode jdk_68_method_68_code 14 = .ok (.goto 4, 3) := by decide +kernel
theorem d31_18 : decode jdk_68_method_68_code 18 = .ok (.ireturn, 1) := by decide +kernel
set_option maxRecDepth 65536 in
set_option maxHeartbeats 40000000 in
theorem n_sb_isLatin1_False_70 (l : Launch) (Z : State) (a0 : Array Value) (hw : ∀ d ∈ tables_1, d.before a0 Z = true) (hEL : EW Z a0 []) (a1 : Addr) (zc : Int32) (rv : Value) (tb : Addr) (kb : ClassId) (v0 v1 v2 v3 v4 v5 v6 v7 v8 v9 v10 v11 v12 v13 v14 v15 v16 v17 v18 v19 v20 v21 v22 v23 v24 v25 v26 v27 v28 v29 v30 v31 v32 v33 v34 v35 v36 v37 v38 v39 v40 v41 v42 v43 v44 v45 v46 v47 v48 v49 v50 v51 v52 v53 v54 v55 v56 v57 v58 v59 v60 v61 v62 v63 v64 v65 v66 v67 v68 v69 : Value) (kk : Int32) (h0 : Heap) (n0 : Nat) (PB : SBN Z h0 a1 tb kb (70 : Int32) kk [v0, v1, v2, v3, v4, v5, v6, v7, v8, v9, v10, v11, v12, v13, v14, v15, v16, v17, v18, v19, v20, v21, v22, v23, v24, v25, v26, v27, v28, v29, v30, v31, v32, v33, v34, v35, v36, v37, v38, v39, v40, v41, v42, v43, v44, v45, v46, v47, v48, v49, v50, v51, v52, v53, v54, v55, v56, v57, v58, v59, v60, v61, v62, v63, v64, v65, v66, v67, v68, v69]) (PX : Sts Z zc rv) (PO : Old Z n0 h0) :
    Met false Z [] l (⟨"java/lang/AbstractStringBuilder", "isLatin1", "()Z"⟩ : MethodName) jdk_68_method_68_code 1 (some .boolean) ({ frames := 0, cells := 0, slots := 0, locals := 0 } : Room) #[(.ref a1)] h0 [] n0 (fun v h => v = some (.int (1 : Int32)) ∧ h0 = h) := by
  refine Met.of (a0 := a0) (Ls := #[.val (.ref a1)]) (fun z => rfl) (plainFor_of_name pn_java_lang_AbstractStringBuilder) hEL (fun m => by first | (simp [entryFrame, mkF, argsToLocals, Value.category]; done) | rfl) ?_
  intro p e s m below meth c B hSf
  obtain ⟨SC, hzc, SF, rf⟩ := id PX
  obtain ⟨BE, BV, BC, BN, BA⟩ := id PB
  refine g_getS B (hw _ (List.mem_of_getElem? (i := 70) rfl)) (SC.ext PO.2) d31_0 (q := 3) rfl ?_
  refine gs (mkF m 6 _ []) (fun T A t k => XS.ifNo A B.x rfl (B.d d31_3) rfl ((if0 _ _).trans (feq (hzc : ¬ (zc = (0 : Int32)))).1) k) ?_
  refine gs (mkF m 7 _ [(.ref a1)]) (fun T A t k => XS.aloadN A B.x rfl (B.d d31_6) rfl rfl k) ?_
  refine g_getF B (hw _ (List.mem_of_getElem? (i := 73) rfl)) Via.refl BC d31_7 (q := 10) rfl ?_
  refine gs (mkF m 13 _ []) (fun T A t k => XS.ifNo A B.x rfl (B.d d31_10) rfl ((if0 _ _).trans (teq (by decide : (0 : Int32) = (0 : Int32))).2) k) ?_
  refine gs (mkF m 14 _ [(.int (1 : Int32))]) (fun T A t k => XS.iconst A B.x rfl (B.d d31_13) k) ?_
  refine gs (mkF m 18 _ [(.int (1 : Int32))]) (fun T A t k => XS.goto A B.x rfl (pc0 := 14) (pc' := 18) rfl (B.d d31_14) (by decide) (by decide) k) ?_
  exact g_retN (t := .boolean) B (by simp) d31_18 (by decide) (by decide) ⟨rfl, rfl⟩
theorem pd_2829Z : parseMethodDescriptor "()Z" = some ⟨[], some .boolean⟩ := by decide +kernel
theorem d27_16 : decode jdk_42_method_150_code 16 = .ok (.invokevirtual 1047, 3) := by decide +kernel
theorem d27_19 : decode jdk_42_method_150_code 19 = .ok (.ifCond .eq 22, 3) := by decide +kernel
theorem d27_22 : decode jdk_42_method_150_code 22 = .ok (.aload_n 0, 1) := by decide +kernel
theorem d27_23 : decode jdk_42_method_150_code 23 = .ok (.iconst 0, 1) := by decide +kernel
theorem d27_24 : decode jdk_42_method_150_code 24 = .ok (.putfield 15, 3) := by decide +kernel
theorem d27_27 : decode jdk_42_method_150_code 27 = .ok (.aload_n 0, 1) := by decide +kernel
theorem d27_28 : decode jdk_42_method_150_code 28 = .ok (.aload_n 3, 1) := by decide +kernel
theorem d27_29 : decode jdk_42_method_150_code 29 = .ok (.iconst 0, 1) := by decide +kernel
theorem d27_30 : decode jdk_42_method_150_code 30 = .ok (.iload 4, 2) := by decide +kernel
theorem d32_0 : decode jdk_65_method_132_code 0 = .ok (.iload_n 1, 1) := by decide +kernel
theorem d32_1 : decode jdk_65_method_132_code 1 = .ok (.ifCond .ne 9, 3) := by decide +kernel
theorem d32_4 : decode jdk_65_method_132_code 4 = .ok (.iload_n 2, 1) := by decide +kernel
theorem d32_5 : decode jdk_65_method_132_code 5 = .ok (.aload_n 0, 1) := by decide +kernel
theorem d32_6 : decode jdk_65_method_132_code 6 = .ok (.arraylength, 1) := by decide +kernel
theorem d32_7 : decode jdk_65_method_132_code 7 = .ok (.if_icmp .eq 10, 3) := by decide +kernel
theorem d32_10 : decode jdk_65_method_132_code 10 = .ok (.aload_n 0, 1) := by decide +kernel
theorem d32_11 : decode jdk_65_method_132_code 11 = .ok (.iload_n 1, 1) := by decide +kernel
theorem d32_12 : decode jdk_65_method_132_code 12 = .ok (.iload_n 2, 1) := by decide +kernel
theorem d33_0 : decode jdk_65_method_133_code 0 = .ok (.iload_n 1, 1) := by decide +kernel
theorem d33_1 : decode jdk_65_method_133_code 1 = .ok (.iload_n 2, 1) := by decide +kernel
theorem d34_0 : decode jdk_65_method_131_code 0 = .ok (.iload_n 1, 1) := by decide +kernel
theorem d34_1 : decode jdk_65_method_131_code 1 = .ok (.iload_n 0, 1) := by decide +kernel
theorem d34_2 : decode jdk_65_method_131_code 2 = .ok (.if_icmp .ge 35, 3) := by decide +kernel
theorem d34_37 : decode jdk_65_method_131_code 37 = .ok (.return_, 1) := by decide +kernel
set_option maxRecDepth 65536 in
set_option maxHeartbeats 40000000 in
theorem n_ckl_0_35 (l : Launch) (Z : State) (a0 : Array Value) (hw : ∀ d ∈ tables_1, d.before a0 Z = true) (hEL : EW Z a0 [])   (h0 : Heap) (n0 : Nat)  :
    Met false Z [] l (⟨"java/util/Arrays", "checkLength", "(II)V"⟩ : MethodName) jdk_65_method_131_code 2 none ({ frames := 0, cells := 0, slots := 0, locals := 0 } : Room) #[(.int (0 : Int32)), (.int (35 : Int32))] h0 [] n0 (fun v h => v = none ∧ h0 = h) := by
  refine Met.of (a0 := a0) (Ls := #[.val (.int (0 : Int32)), .val (.int (35 : Int32))]) (fun z => rfl) (plainFor_of_name pn_java_util_Arrays) hEL (fun m => by first | (simp [entryFrame, mkF, argsToLocals, Value.category]; done) | rfl) ?_
  intro p e s m below meth c B hSf
  refine gs (mkF m 1 _ [(.int (35 : Int32))]) (fun T A t k => XS.iloadN A B.x rfl (B.d d34_0) rfl k) ?_
  refine gs (mkF m 2 _ [(.int (0 : Int32)), (.int (35 : Int32))]) (fun T A t k => XS.iloadN A B.x rfl (B.d d34_1) rfl k) ?_
  refine gs (mkF m 37 _ []) (fun T A t k => XS.icmpYes A B.x rfl (pc0 := 2) (pc' := 37) rfl (B.d d34_2) rfl (flt (by decide : ¬ ((35 : Int32) < (0 : Int32)))).2.1 (by decide) (by decide) k) ?_
  exact g_ret0 B d34_37 (by decide) (by decide) ⟨rfl, rfl⟩
theorem pd_28II29V : parseMethodDescriptor "(II)V" = some ⟨[.int, .int], none⟩ := by decide +kernel
theorem d33_2 : decode jdk_65_method_133_code 2 = .ok (.invokestatic 343, 3) := by decide +kernel
theorem d33_5 : decode jdk_65_method_133_code 5 = .ok (.iload_n 2, 1) := by decide +kernel
theorem d33_6 : decode jdk_65_method_133_code 6 = .ok (.iload_n 1, 1) := by decide +kernel
theorem d33_7 : decode jdk_65_method_133_code 7 = .ok (.isub, 1) := by decide +kernel
theorem d33_8 : decode jdk_65_method_133_code 8 = .ok (.istore_n 3, 1) := by decide +kernel
theorem d33_9 : decode jdk_65_method_133_code 9 = .ok (.iload_n 3, 1) := by decide +kernel
theorem d33_10 : decode jdk_65_method_133_code 10 = .ok (.newarray .byte, 2) := by decide +kernel
theorem d33_12 : decode jdk_65_method_133_code 12 = .ok (.astore 4, 2) := by decide +kernel
theorem d33_14 : decode jdk_65_method_133_code 14 = .ok (.aload_n 0, 1) := by decide +kernel
theorem d33_15 : decode jdk_65_method_133_code 15 = .ok (.iload_n 1, 1) := by decide +kernel
theorem d33_16 : decode jdk_65_method_133_code 16 = .ok (.aload 4, 2) := by decide +kernel
theorem d33_18 : decode jdk_65_method_133_code 18 = .ok (.iconst 0, 1) := by decide +kernel
theorem d33_19 : decode jdk_65_method_133_code 19 = .ok (.aload_n 0, 1) := by decide +kernel
theorem d33_20 : decode jdk_65_method_133_code 20 = .ok (.arraylength, 1) := by decide +kernel
theorem d33_21 : decode jdk_65_method_133_code 21 = .ok (.iload_n 1, 1) := by decide +kernel
theorem d33_22 : decode jdk_65_method_133_code 22 = .ok (.isub, 1) := by decide +kernel
theorem d33_23 : decode jdk_65_method_133_code 23 = .ok (.iload_n 3, 1) := by decide +kernel
theorem d24_9 : decode jdk_29_method_69_code 9 = .ok (.iload_n 1, 1) := by decide +kernel
set_option maxRecDepth 65536 in
set_option maxHeartbeats 40000000 in
theorem n_min_70_35 (l : Launch) (Z : State) (a0 : Array Value) (hw : ∀ d ∈ tables_1, d.before a0 Z = true) (hEL : EW Z a0 [])   (h0 : Heap) (n0 : Nat)  :
    Met false Z [] l (⟨"java/lang/Math", "min", "(II)I"⟩ : MethodName) jdk_29_method_69_code 2 (some .int) ({ frames := 0, cells := 0, slots := 0, locals := 0 } : Room) #[(.int (70 : Int32)), (.int (35 : Int32))] h0 [] n0 (fun v h => v = some (.int (35 : Int32)) ∧ h0 = h) := by
  refine Met.of (a0 := a0) (Ls := #[.val (.int (70 : Int32)), .val (.int (35 : Int32))]) (fun z => rfl) (Jvm.Free.JP.mathPlain rfl (by decide +kernel)) hEL (fun m => by first | (simp [entryFrame, mkF, argsToLocals, Value.category]; done) | rfl) ?_
  intro p e s m below meth c B hSf
  refine gs (mkF m 1 _ [(.int (70 : Int32))]) (fun T A t k => XS.iloadN A B.x rfl (B.d d24_0) rfl k) ?_
  refine gs (mkF m 2 _ [(.int (35 : Int32)), (.int (70 : Int32))]) (fun T A t k => XS.iloadN A B.x rfl (B.d d24_1) rfl k) ?_
  refine gs (mkF m 9 _ []) (fun T A t k => XS.icmpYes A B.x rfl (pc0 := 2) (pc' := 9) rfl (B.d d24_2) rfl (tlt (by decide : (35 : Int32) < (70 : Int32))).2.2.1 (by decide) (by decide) k) ?_
  refine gs (mkF m 10 _ [(.int (35 : Int32))]) (fun T A t k => XS.iloadN A B.x rfl (B.d d24_9) rfl k) ?_
  exact g_retI B d24_10 (by decide) (by decide) ⟨rfl, rfl⟩
theorem d33_24 : decode jdk_65_method_133_code 24 = .ok (.invokestatic 304, 3) := by decide +kernel
theorem d33_27 : decode jdk_65_method_133_code 27 = .ok (.invokestatic 150, 3) := by decide +kernel
theorem d33_30 : decode jdk_65_method_133_code 30 = .ok (.aload 4, 2) := by decide +kernel
theorem d33_32 : decode jdk_65_method_133_code 32 = .ok (.areturn, 1) := by decide +kernel
set_option maxRecDepth 65536 in
set_option maxHeartbeats 40000000 in
theorem n_copyOfRangeByte_70_35 (l : Launch) (Z : State) (a0 : Array Value) (hw : ∀ d ∈ tables_1, d.before a0 Z = true) (hEL : EW Z a0 []) (a1 : Addr) (kb : ClassId) (v0 v1 v2 v3 v4 v5 v6 v7 v8 v9 v10 v11 v12 v13 v14 v15 v16 v17 v18 v19 v20 v21 v22 v23 v24 v25 v26 v27 v28 v29 v30 v31 v32 v33 v34 v35 v36 v37 v38 v39 v40 v41 v42 v43 v44 v45 v46 v47 v48 v49 v50 v51 v52 v53 v54 v55 v56 v57 v58 v59 v60 v61 v62 v63 v64 v65 v66 v67 v68 v69 : Value) (h0 : Heap) (n0 : Nat) (PA : Arv Z h0 a1 kb .byte (70 : Int32) [v0, v1, v2, v3, v4, v5, v6, v7, v8, v9, v10, v11, v12, v13, v14, v15, v16, v17, v18, v19, v20, v21, v22, v23, v24, v25, v26, v27, v28, v29, v30, v31, v32, v33, v34, v35, v36, v37, v38, v39, v40, v41, v42, v43, v44, v45, v46, v47, v48, v49, v50, v51, v52, v53, v54, v55, v56, v57, v58, v59, v60, v61, v62, v63, v64, v65, v66, v67, v68, v69] (.int (0 : Int32))) (hn : @LE.le Nat _ n0 h0.size) :
    Met false Z [] l (⟨"java/util/Arrays", "copyOfRangeByte", "([BII)[B"⟩ : MethodName) jdk_65_method_133_code 5 (some (.array .byte)) ({ frames := 1, cells := 1, slots := 35, locals := 18 } : Room) #[(.ref a1), (.int (0 : Int32)), (.int (35 : Int32))] h0 [] n0 (fun v h => ∃ (x : Addr) (kb' : ClassId), v = some (.ref x) ∧ Keep h0 h [] ∧ @LE.le Nat _ h0.size x ∧ Arv Z h x kb' .byte (35 : Int32) [v0, v1, v2, v3, v4, v5, v6, v7, v8, v9, v10, v11, v12, v13, v14, v15, v16, v17, v18, v19, v20, v21, v22, v23, v24, v25, v26, v27, v28, v29, v30, v31, v32, v33, v34] (.int (0 : Int32))) := by
  refine Met.of (a0 := a0) (Ls := #[.val (.ref a1), .val (.int (0 : Int32)), .val (.int (35 : Int32)), .unset, .unset]) (fun z => rfl) (plainFor_of_name pn_java_util_Arrays) hEL (fun m => by first | (simp [entryFrame, mkF, argsToLocals, Value.category]; done) | rfl) ?_
  intro p e s m below meth c B hSf
  have hlt1 : @LT.lt Nat _ a1 h0.size := PA.lt
  refine gs (mkF m 1 _ [(.int (0 : Int32))]) (fun T A t k => XS.iloadN A B.x rfl (B.d d33_0) rfl k) ?_
  refine gs (mkF m 2 _ [(.int (35 : Int32)), (.int (0 : Int32))]) (fun T A t k => XS.iloadN A B.x rfl (B.d d33_1) rfl k) ?_
  refine g_metN (c_static B (hw _ (List.mem_of_getElem? (i := 187) rfl)) (hw _ (List.mem_of_getElem? (i := 188) rfl)) (hw _ (List.mem_of_getElem? (i := 144) rfl)) (hw _ (List.mem_of_getElem? (i := 189) rfl)) (by decide) rfl (lenOf pd_28II29V rfl) rfl (Nat.le_of_eq rfl) d33_2 rfl (argsL := [(.int (0 : Int32)), (.int (35 : Int32))]) (rest := []) (W := 0) (q := 5)) (n_ckl_0_35 l Z a0 hw hEL  h0 n0) (hw _ (List.mem_of_getElem? (i := 189) rfl)) (hw _ (List.mem_of_getElem? (i := 144) rfl)) (by decide) (by decide) (by decide) (by decide) ?_
  intro v21 h21 hz21 hQ21
  obtain ⟨rfl, rfl⟩ := hQ21
  refine gs (mkF m 6 _ [(.int (35 : Int32))]) (fun T A t k => XS.iloadN A B.x rfl (B.d d33_5) rfl k) ?_
  refine gs (mkF m 7 _ [(.int (0 : Int32)), (.int (35 : Int32))]) (fun T A t k => XS.iloadN A B.x rfl (B.d d33_6) rfl k) ?_
  refine gs (mkF m 8 _ [(.int (35 : Int32))]) (fun T A t k => XS.isub A B.x rfl (B.d d33_7) rfl k) ?_
  refine gs (mkF m 9 #[.val (.ref a1), .val (.int (0 : Int32)), .val (.int (35 : Int32)), .val (.int (35 : Int32)), .unset] []) (fun T A t k => XS.istoreN A B.x rfl (B.d d33_8) rfl (l' := #[.val (.ref a1), .val (.int (0 : Int32)), .val (.int (35 : Int32)), .val (.int (35 : Int32)), .unset]) rfl k) ?_
  refine gs (mkF m 10 _ [(.int (35 : Int32))]) (fun T A t k => XS.iloadN A B.x rfl (B.d d33_9) rfl k) ?_
  refine g_newP B (hw _ (List.mem_of_getElem? (i := 20) rfl)) d33_10 (by decide) (cap := 35) (by decide) (by decide) (by decide) (by decide) (q := 12) rfl ?_
  intro h22 b22 k22 g22 E22 S22 A22
  have z22 := E22.1; have y22 : @LT.lt Nat _ b22 h22.size := A22.lt
  have V22 : Arv Z h22 b22 k22 .byte (35 : Int32) [(.int (0 : Int32)), (.int (0 : Int32)), (.int (0 : Int32)), (.int (0 : Int32)), (.int (0 : Int32)), (.int (0 : Int32)), (.int (0 : Int32)), (.int (0 : Int32)), (.int (0 : Int32)), (.int (0 : Int32)), (.int (0 : Int32)), (.int (0 : Int32)), (.int (0 : Int32)), (.int (0 : Int32)), (.int (0 : Int32)), (.int (0 : Int32)), (.int (0 : Int32)), (.int (0 : Int32)), (.int (0 : Int32)), (.int (0 : Int32)), (.int (0 : Int32)), (.int (0 : Int32)), (.int (0 : Int32)), (.int (0 : Int32)), (.int (0 : Int32)), (.int (0 : Int32)), (.int (0 : Int32)), (.int (0 : Int32)), (.int (0 : Int32)), (.int (0 : Int32)), (.int (0 : Int32)), (.int (0 : Int32)), (.int (0 : Int32)), (.int (0 : Int32)), (.int (0 : Int32))] (.int (0 : Int32)) := A22
  refine gs (mkF m 14 #[.val (.ref a1), .val (.int (0 : Int32)), .val (.int (35 : Int32)), .val (.int (35 : Int32)), .val (.ref b22)] []) (fun T A t k => XS.astore A B.x rfl (B.d d33_12) rfl rfl (l' := #[.val (.ref a1), .val (.int (0 : Int32)), .val (.int (35 : Int32)), .val (.int (35 : Int32)), .val (.ref b22)]) rfl k) ?_
  refine gs (mkF m 15 _ [(.ref a1)]) (fun T A t k => XS.aloadN A B.x rfl (B.d d33_14) rfl rfl k) ?_
  refine gs (mkF m 16 _ [(.int (0 : Int32)), (.ref a1)]) (fun T A t k => XS.iloadN A B.x rfl (B.d d33_15) rfl k) ?_
  refine gs (mkF m 18 _ [(.ref b22), (.int (0 : Int32)), (.ref a1)]) (fun T A t k => XS.aload A B.x rfl (B.d d33_16) rfl rfl k) ?_
  refine gs (mkF m 19 _ [(.int (0 : Int32)), (.ref b22), (.int (0 : Int32)), (.ref a1)]) (fun T A t k => XS.iconst A B.x rfl (B.d d33_18) k) ?_
  refine gs (mkF m 20 _ [(.ref a1), (.int (0 : Int32)), (.ref b22), (.int (0 : Int32)), (.ref a1)]) (fun T A t k => XS.aloadN A B.x rfl (B.d d33_19) rfl rfl k) ?_
  refine g_len B (PA.ext E22) d33_20 (q := 21) rfl ?_
  refine gs (mkF m 22 _ [(.int (0 : Int32)), (.int (70 : Int32)), (.int (0 : Int32)), (.ref b22), (.int (0 : Int32)), (.ref a1)]) (fun T A t k => XS.iloadN A B.x rfl (B.d d33_21) rfl k) ?_
  refine gs (mkF m 23 _ [(.int (70 : Int32)), (.int (0 : Int32)), (.ref b22), (.int (0 : Int32)), (.ref a1)]) (fun T A t k => XS.isub A B.x rfl (B.d d33_22) rfl k) ?_
  refine gs (mkF m 24 _ [(.int (35 : Int32)), (.int (70 : Int32)), (.int (0 : Int32)), (.ref b22), (.int (0 : Int32)), (.ref a1)]) (fun T A t k => XS.iloadN A B.x rfl (B.d d33_23) rfl k) ?_
  refine g_metN (c_static B (hw _ (List.mem_of_getElem? (i := 146) rfl)) (hw _ (List.mem_of_getElem? (i := 147) rfl)) (hw _ (List.mem_of_getElem? (i := 138) rfl)) (hw _ (List.mem_of_getElem? (i := 148) rfl)) (by decide) rfl (lenOf pd_28II29I rfl) rfl (Nat.le_of_eq rfl) d33_24 rfl (argsL := [(.int (70 : Int32)), (.int (35 : Int32))]) (rest := [(.int (0 : Int32)), (.ref b22), (.int (0 : Int32)), (.ref a1)]) (W := 4) (q := 27)) (n_min_70_35 l Z a0 hw hEL  h22 n0) (hw _ (List.mem_of_getElem? (i := 148) rfl)) (hw _ (List.mem_of_getElem? (i := 138) rfl)) (by decide) (by decide) (by decide) (by decide) ?_
  intro v23 h23 hz23 hQ23
  obtain ⟨rfl, rfl⟩ := hQ23
  refine g_cp (us := [v0, v1, v2, v3, v4, v5, v6, v7, v8, v9, v10, v11, v12, v13, v14, v15, v16, v17, v18, v19, v20, v21, v22, v23, v24, v25, v26, v27, v28, v29, v30, v31, v32, v33, v34]) (vr := [v0, v1, v2, v3, v4, v5, v6, v7, v8, v9, v10, v11, v12, v13, v14, v15, v16, v17, v18, v19, v20, v21, v22, v23, v24, v25, v26, v27, v28, v29, v30, v31, v32, v33, v34]) (W := 0) B (hw _ (List.mem_of_getElem? (i := 149) rfl)) (hw _ (List.mem_of_getElem? (i := 124) rfl)) (hw _ (List.mem_of_getElem? (i := 122) rfl)) (hw _ (List.mem_of_getElem? (i := 123) rfl)) (PA.ext E22) V22 (Or.inl ⟨rfl, rfl⟩) (by decide) (by decide) (by decide) (by decide) (by decide) rfl (Nat.le_of_ble_eq_true rfl) rfl rfl d33_27 (by decide) (Nat.le_of_eq rfl) (by decide) nos (by omega) (q := 30) rfl ?_
  intro h24 K24 V24
  have z24 := K24.1
  refine gs (mkF m 32 _ [(.ref b22)]) (fun T A t k => XS.aload A B.x rfl (B.d d33_30) rfl rfl k) ?_
  exact g_retA B rfl rfl d33_32 (by decide) (by decide) ⟨_, _, rfl, (((Keep.refl h0 []).ext E22).trans K24 (allS (Or.inr (by omega)) all0)), (by omega), V24⟩
theorem pd_285bBII295bB : parseMethodDescriptor "([BII)[B" = some ⟨[(.array .byte), .int, .int], some (.array .byte)⟩ := by decide +kernel
theorem d32_13 : decode jdk_65_method_132_code 13 = .ok (.invokestatic 339, 3) := by decide +kernel
theorem d32_16 : decode jdk_65_method_132_code 16 = .ok (.areturn, 1) := by decide +kernel
set_option maxRecDepth 65536 in
set_option maxHeartbeats 40000000 in
theorem n_copyOfRange_70_35 (l : Launch) (Z : State) (a0 : Array Value) (hw : ∀ d ∈ tables_1, d.before a0 Z = true) (hEL : EW Z a0 []) (a1 : Addr) (kb : ClassId) (v0 v1 v2 v3 v4 v5 v6 v7 v8 v9 v10 v11 v12 v13 v14 v15 v16 v17 v18 v19 v20 v21 v22 v23 v24 v25 v26 v27 v28 v29 v30 v31 v32 v33 v34 v35 v36 v37 v38 v39 v40 v41 v42 v43 v44 v45 v46 v47 v48 v49 v50 v51 v52 v53 v54 v55 v56 v57 v58 v59 v60 v61 v62 v63 v64 v65 v66 v67 v68 v69 : Value) (h0 : Heap) (n0 : Nat) (PA : Arv Z h0 a1 kb .byte (70 : Int32) [v0, v1, v2, v3, v4, v5, v6, v7, v8, v9, v10, v11, v12, v13, v14, v15, v16, v17, v18, v19, v20, v21, v22, v23, v24, v25, v26, v27, v28, v29, v30, v31, v32, v33, v34, v35, v36, v37, v38, v39, v40, v41, v42, v43, v44, v45, v46, v47, v48, v49, v50, v51, v52, v53, v54, v55, v56, v57, v58, v59, v60, v61, v62, v63, v64, v65, v66, v67, v68, v69] (.int (0 : Int32))) (hn : @LE.le Nat _ n0 h0.size) :
    Met false Z [] l (⟨"java/util/Arrays", "copyOfRange", "([BII)[B"⟩ : MethodName) jdk_65_method_132_code 3 (some (.array .byte)) ({ frames := 2, cells := 1, slots := 35, locals := 34 } : Room) #[(.ref a1), (.int (0 : Int32)), (.int (35 : Int32))] h0 [] n0 (fun v h => ∃ (x : Addr) (kb' : ClassId), v = some (.ref x) ∧ Keep h0 h [] ∧ @LE.le Nat _ h0.size x ∧ Arv Z h x kb' .byte (35 : Int32) [v0, v1, v2, v3, v4, v5, v6, v7, v8, v9, v10, v11, v12, v13, v14, v15, v16, v17, v18, v19, v20, v21, v22, v23, v24, v25, v26, v27, v28, v29, v30, v31, v32, v33, v34] (.int (0 : Int32))) := by
  refine Met.of (a0 := a0) (Ls := #[.val (.ref a1), .val (.int (0 : Int32)), .val (.int (35 : Int32))]) (fun z => rfl) (plainFor_of_name pn_java_util_Arrays) hEL (fun m => by first | (simp [entryFrame, mkF, argsToLocals, Value.category]; done) | rfl) ?_
  intro p e s m below meth c B hSf
  have hlt1 : @LT.lt Nat _ a1 h0.size := PA.lt
  refine gs (mkF m 1 _ [(.int (0 : Int32))]) (fun T A t k => XS.iloadN A B.x rfl (B.d d32_0) rfl k) ?_
  refine gs (mkF m 4 _ []) (fun T A t k => XS.ifNo A B.x rfl (B.d d32_1) rfl ((if0 _ _).trans (teq (by decide : (0 : Int32) = (0 : Int32))).2) k) ?_
  refine gs (mkF m 5 _ [(.int (35 : Int32))]) (fun T A t k => XS.iloadN A B.x rfl (B.d d32_4) rfl k) ?_
  refine gs (mkF m 6 _ [(.ref a1), (.int (35 : Int32))]) (fun T A t k => XS.aloadN A B.x rfl (B.d d32_5) rfl rfl k) ?_
  refine g_len B PA d32_6 (q := 7) rfl ?_
  refine gs (mkF m 10 _ []) (fun T A t k => XS.icmpNo A B.x rfl (B.d d32_7) rfl (feq (by decide : ¬ ((35 : Int32) = (70 : Int32)))).1 k) ?_
  refine gs (mkF m 11 _ [(.ref a1)]) (fun T A t k => XS.aloadN A B.x rfl (B.d d32_10) rfl rfl k) ?_
  refine gs (mkF m 12 _ [(.int (0 : Int32)), (.ref a1)]) (fun T A t k => XS.iloadN A B.x rfl (B.d d32_11) rfl k) ?_
  refine gs (mkF m 13 _ [(.int (35 : Int32)), (.int (0 : Int32)), (.ref a1)]) (fun T A t k => XS.iloadN A B.x rfl (B.d d32_12) rfl k) ?_
  refine g_metN (c_static B (hw _ (List.mem_of_getElem? (i := 184) rfl)) (hw _ (List.mem_of_getElem? (i := 185) rfl)) (hw _ (List.mem_of_getElem? (i := 144) rfl)) (hw _ (List.mem_of_getElem? (i := 186) rfl)) (by decide) rfl (lenOf pd_285bBII295bB rfl) rfl (Nat.le_of_eq rfl) d32_13 rfl (argsL := [(.ref a1), (.int (0 : Int32)), (.int (35 : Int32))]) (rest := []) (W := 0) (q := 16)) (n_copyOfRangeByte_70_35 l Z a0 hw hEL a1 kb v0 v1 v2 v3 v4 v5 v6 v7 v8 v9 v10 v11 v12 v13 v14 v15 v16 v17 v18 v19 v20 v21 v22 v23 v24 v25 v26 v27 v28 v29 v30 v31 v32 v33 v34 v35 v36 v37 v38 v39 v40 v41 v42 v43 v44 v45 v46 v47 v48 v49 v50 v51 v52 v53 v54 v55 v56 v57 v58 v59 v60 v61 v62 v63 v64 v65 v66 v67 v68 v69 h0 n0 PA (by omega)) (hw _ (List.mem_of_getElem? (i := 186) rfl)) (hw _ (List.mem_of_getElem? (i := 144) rfl)) (by decide) (by decide) (by decide) (by decide) ?_
  intro v21 h21 hz21 hQ21
  obtain ⟨x21, k21, rfl, K21, g21, V21⟩ := hQ21
  have z21 := K21.1; have y21 : @LT.lt Nat _ x21 h21.size := V21.lt
  exact g_retA B rfl rfl d32_16 (by decide) (by decide) ⟨_, _, rfl, ((Keep.refl h0 []).trans K21 all0), (by omega), V21⟩
theorem d27_32 : decode jdk_42_method_150_code 32 = .ok (.invokestatic 54, 3) := by decide +kernel
theorem d27_35 : decode jdk_42_method_150_code 35 = .ok (.putfield 9, 3) := by decide +kernel
theorem d27_38 : decode jdk_42_method_150_code 38 = .ok (.goto 59, 3) := by decide +kernel
theorem d27_97 : decode jdk_42_method_150_code 97 = .ok (.return_, 1) := by decide +kernel
set_option maxRecDepth 65536 in
set_option maxHeartbeats 40000000 in
theorem n_siniv_35 (l : Launch) (Z : State) (a0 : Array Value) (hw : ∀ d ∈ tables_1, d.before a0 Z = true) (hEL : EW Z a0 []) (a1 : Addr) (a2 : Addr) (zc : Int32) (rv : Value) (tb : Addr) (kb : ClassId) (v0 v1 v2 v3 v4 v5 v6 v7 v8 v9 v10 v11 v12 v13 v14 v15 v16 v17 v18 v19 v20 v21 v22 v23 v24 v25 v26 v27 v28 v29 v30 v31 v32 v33 v34 v35 v36 v37 v38 v39 v40 v41 v42 v43 v44 v45 v46 v47 v48 v49 v50 v51 v52 v53 v54 v55 v56 v57 v58 v59 v60 v61 v62 v63 v64 v65 v66 v67 v68 v69 : Value) (h0 : Heap) (n0 : Nat) (PE : Exa Z h0 a1 "java/lang/String") (PV : Fld Z h0 a1 "java/lang/String" "value" "[B" .null) (PC : Fld Z h0 a1 "java/lang/String" "coder" "B" (.int (0 : Int32))) (PB : SBN Z h0 a2 tb kb (70 : Int32) (35 : Int32) [v0, v1, v2, v3, v4, v5, v6, v7, v8, v9, v10, v11, v12, v13, v14, v15, v16, v17, v18, v19, v20, v21, v22, v23, v24, v25, v26, v27, v28, v29, v30, v31, v32, v33, v34, v35, v36, v37, v38, v39, v40, v41, v42, v43, v44, v45, v46, v47, v48, v49, v50, v51, v52, v53, v54, v55, v56, v57, v58, v59, v60, v61, v62, v63, v64, v65, v66, v67, v68, v69]) (hn : @LE.le Nat _ n0 h0.size) (hd : @LE.le Nat _ n0 a1) (hne : @Ne Nat a1 a2) (hnt : @Ne Nat a1 tb) (PX : Sts Z zc rv) (PO : Old Z n0 h0) :
    Met false Z [] l (⟨"java/lang/String", "<init>", "(Ljava/lang/AbstractStringBuilder;Ljava/lang/Void;)V"⟩ : MethodName) jdk_42_method_150_code 5 none ({ frames := 3, cells := 1, slots := 35, locals := 49 } : Room) #[(.ref a1), (.ref a2), .null] h0 [] n0 (fun v h => v = none ∧ Keep h0 h [a1] ∧ ∃ (t : Addr) (k3 : ClassId), @LE.le Nat _ h0.size t ∧ Exa Z h a1 "java/lang/String" ∧ Fld Z h a1 "java/lang/String" "value" "[B" (.ref t) ∧ Fld Z h a1 "java/lang/String" "coder" "B" (.int (0 : Int32)) ∧ Arv Z h t k3 .byte (35 : Int32) [v0, v1, v2, v3, v4, v5, v6, v7, v8, v9, v10, v11, v12, v13, v14, v15, v16, v17, v18, v19, v20, v21, v22, v23, v24, v25, v26, v27, v28, v29, v30, v31, v32, v33, v34] (.int (0 : Int32))) := by
  refine Met.of (a0 := a0) (Ls := #[.val (.ref a1), .val (.ref a2), .val .null, .unset, .unset]) (fun z => rfl) (plainFor_of_name pn_java_lang_String) hEL (fun m => by first | (simp [entryFrame, mkF, argsToLocals, Value.category]; done) | rfl) ?_
  intro p e s m below meth c B hSf
  obtain ⟨SC, hzc, SF, rf⟩ := id PX
  have hlt1 : @LT.lt Nat _ a1 h0.size := PE.lt
  obtain ⟨BE, BV, BC, BN, BA⟩ := id PB
  refine gs (mkF m 1 _ [(.ref a1)]) (fun T A t k => XS.aloadN A B.x rfl (B.d d27_0) rfl rfl k) ?_
  refine g_initO B (hw _ (List.mem_of_getElem? (i := 12) rfl)) (hw _ (List.mem_of_getElem? (i := 13) rfl)) (hw _ (List.mem_of_getElem? (i := 14) rfl)) rfl d27_1 (by decide) (W := 0) (Nat.le_of_eq rfl) (by decide) (q := 4) rfl ?_
  refine gs (mkF m 5 _ [(.ref a2)]) (fun T A t k => XS.aloadN A B.x rfl (B.d d27_4) rfl rfl k) ?_
  refine g_metN (c_virt B BE (hw _ (List.mem_of_getElem? (i := 163) rfl)) (hw _ (List.mem_of_getElem? (i := 164) rfl)) (hw _ (List.mem_of_getElem? (i := 166) rfl)) (hw _ (List.mem_of_getElem? (i := 165) rfl)) (nfs (z := (⟨"java/lang/AbstractStringBuilder", "getValue", "()[B"⟩ : MethodName)) (hw _ (List.mem_of_getElem? (i := 166) rfl))) (by decide) rfl (lenOf pd_28295bB rfl) rfl (Nat.le_of_eq rfl) d27_5 rfl (argsL := []) (rest := []) (W := 0) (q := 8)) (n_sb_getValue_False_70 l Z a0 hw hEL a2 zc rv tb kb v0 v1 v2 v3 v4 v5 v6 v7 v8 v9 v10 v11 v12 v13 v14 v15 v16 v17 v18 v19 v20 v21 v22 v23 v24 v25 v26 v27 v28 v29 v30 v31 v32 v33 v34 v35 v36 v37 v38 v39 v40 v41 v42 v43 v44 v45 v46 v47 v48 v49 v50 v51 v52 v53 v54 v55 v56 v57 v58 v59 v60 v61 v62 v63 v64 v65 v66 v67 v68 v69 (35 : Int32) h0 n0 ⟨BE, BV, BC, BN, BA⟩ PX PO) (hw _ (List.mem_of_getElem? (i := 167) rfl)) (hw _ (List.mem_of_getElem? (i := 67) rfl)) (by decide) (by decide) (by decide) (by decide) ?_
  intro v21 h21 hz21 hQ21
  obtain ⟨rfl, rfl⟩ := hQ21
  refine gs (mkF m 9 #[.val (.ref a1), .val (.ref a2), .val .null, .val (.ref tb), .unset] []) (fun T A t k => XS.astoreN A B.x rfl (B.d d27_8) rfl rfl (l' := #[.val (.ref a1), .val (.ref a2), .val .null, .val (.ref tb), .unset]) rfl k) ?_
  refine gs (mkF m 10 _ [(.ref a2)]) (fun T A t k => XS.aloadN A B.x rfl (B.d d27_9) rfl rfl k) ?_
  refine g_metN (c_virt B BE (hw _ (List.mem_of_getElem? (i := 168) rfl)) (hw _ (List.mem_of_getElem? (i := 169) rfl)) (hw _ (List.mem_of_getElem? (i := 171) rfl)) (hw _ (List.mem_of_getElem? (i := 172) rfl)) (nfc (hw _ (List.mem_of_getElem? (i := 103) rfl)) rfl) (by decide) rfl (lenOf pd_2829I rfl) rfl (Nat.le_of_eq rfl) d27_10 rfl (argsL := []) (rest := []) (W := 0) (q := 13)) (n_sb_length_True_70 l Z a0 hw hEL a2 zc rv tb kb v0 v1 v2 v3 v4 v5 v6 v7 v8 v9 v10 v11 v12 v13 v14 v15 v16 v17 v18 v19 v20 v21 v22 v23 v24 v25 v26 v27 v28 v29 v30 v31 v32 v33 v34 v35 v36 v37 v38 v39 v40 v41 v42 v43 v44 v45 v46 v47 v48 v49 v50 v51 v52 v53 v54 v55 v56 v57 v58 v59 v60 v61 v62 v63 v64 v65 v66 v67 v68 v69 (35 : Int32) h0 n0 ⟨BE, BV, BC, BN, BA⟩ PX PO) (hw _ (List.mem_of_getElem? (i := 173) rfl)) (hw _ (List.mem_of_getElem? (i := 59) rfl)) (by decide) (by decide) (by decide) (by decide) ?_
  intro v22 h22 hz22 hQ22
  obtain ⟨rfl, rfl⟩ := hQ22
  refine gs (mkF m 15 #[.val (.ref a1), .val (.ref a2), .val .null, .val (.ref tb), .val (.int (35 : Int32))] []) (fun T A t k => XS.istore A B.x rfl (B.d d27_13) rfl (l' := #[.val (.ref a1), .val (.ref a2), .val .null, .val (.ref tb), .val (.int (35 : Int32))]) rfl k) ?_
  refine gs (mkF m 16 _ [(.ref a2)]) (fun T A t k => XS.aloadN A B.x rfl (B.d d27_15) rfl rfl k) ?_
  refine g_metN (c_virt B BE (hw _ (List.mem_of_getElem? (i := 176) rfl)) (hw _ (List.mem_of_getElem? (i := 177) rfl)) (hw _ (List.mem_of_getElem? (i := 179) rfl)) (hw _ (List.mem_of_getElem? (i := 178) rfl)) (nfs (z := (⟨"java/lang/AbstractStringBuilder", "isLatin1", "()Z"⟩ : MethodName)) (hw _ (List.mem_of_getElem? (i := 179) rfl))) (by decide) rfl (lenOf pd_2829Z rfl) rfl (Nat.le_of_eq rfl) d27_16 rfl (argsL := []) (rest := []) (W := 0) (q := 19)) (n_sb_isLatin1_False_70 l Z a0 hw hEL a2 zc rv tb kb v0 v1 v2 v3 v4 v5 v6 v7 v8 v9 v10 v11 v12 v13 v14 v15 v16 v17 v18 v19 v20 v21 v22 v23 v24 v25 v26 v27 v28 v29 v30 v31 v32 v33 v34 v35 v36 v37 v38 v39 v40 v41 v42 v43 v44 v45 v46 v47 v48 v49 v50 v51 v52 v53 v54 v55 v56 v57 v58 v59 v60 v61 v62 v63 v64 v65 v66 v67 v68 v69 (35 : Int32) h0 n0 ⟨BE, BV, BC, BN, BA⟩ PX PO) (hw _ (List.mem_of_getElem? (i := 180) rfl)) (hw _ (List.mem_of_getElem? (i := 67) rfl)) (by decide) (by decide) (by decide) (by decide) ?_
  intro v23 h23 hz23 hQ23
  obtain ⟨rfl, rfl⟩ := hQ23
  refine gs (mkF m 22 _ []) (fun T A t k => XS.ifNo A B.x rfl (B.d d27_19) rfl ((if0 _ _).trans (feq (by decide : ¬ ((1 : Int32) = (0 : Int32)))).1) k) ?_
  refine gs (mkF m 23 _ [(.ref a1)]) (fun T A t k => XS.aloadN A B.x rfl (B.d d27_22) rfl rfl k) ?_
  refine gs (mkF m 24 _ [(.int (0 : Int32)), (.ref a1)]) (fun T A t k => XS.iconst A B.x rfl (B.d d27_23) k) ?_
  refine g_putFN B (hw _ (List.mem_of_getElem? (i := 27) rfl)) Via.refl PC PE (Or.inr ⟨(hw _ (List.mem_of_getElem? (i := 28) rfl)), rfl, rfl⟩) (hw _ (List.mem_of_getElem? (i := 3) rfl)) (ty := .byte) (v' := (.int (0 : Int32))) (by decide) rfl rfl d27_24 nos (by omega) (q := 27) rfl ?_
  intro h24 W24 F24
  have z24 := W24.size
  refine gs (mkF m 28 _ [(.ref a1)]) (fun T A t k => XS.aloadN A B.x rfl (B.d d27_27) rfl rfl k) ?_
  refine gs (mkF m 29 _ [(.ref tb), (.ref a1)]) (fun T A t k => XS.aloadN A B.x rfl (B.d d27_28) rfl rfl k) ?_
  refine gs (mkF m 30 _ [(.int (0 : Int32)), (.ref tb), (.ref a1)]) (fun T A t k => XS.iconst A B.x rfl (B.d d27_29) k) ?_
  refine gs (mkF m 32 _ [(.int (35 : Int32)), (.int (0 : Int32)), (.ref tb), (.ref a1)]) (fun T A t k => XS.iload A B.x rfl (B.d d27_30) rfl k) ?_
  refine g_metN (c_static B (hw _ (List.mem_of_getElem? (i := 181) rfl)) (hw _ (List.mem_of_getElem? (i := 182) rfl)) (hw _ (List.mem_of_getElem? (i := 144) rfl)) (hw _ (List.mem_of_getElem? (i := 183) rfl)) (by decide) rfl (lenOf pd_285bBII295bB rfl) rfl (Nat.le_of_eq rfl) d27_32 rfl (argsL := [(.ref tb), (.int (0 : Int32)), (.int (35 : Int32))]) (rest := [(.ref a1)]) (W := 1) (q := 35)) (n_copyOfRange_70_35 l Z a0 hw hEL tb kb v0 v1 v2 v3 v4 v5 v6 v7 v8 v9 v10 v11 v12 v13 v14 v15 v16 v17 v18 v19 v20 v21 v22 v23 v24 v25 v26 v27 v28 v29 v30 v31 v32 v33 v34 v35 v36 v37 v38 v39 v40 v41 v42 v43 v44 v45 v46 v47 v48 v49 v50 v51 v52 v53 v54 v55 v56 v57 v58 v59 v60 v61 v62 v63 v64 v65 v66 v67 v68 v69 h24 n0 (BA.other W24 (by omega : @Ne Nat tb a1)) (by omega)) (hw _ (List.mem_of_getElem? (i := 183) rfl)) (hw _ (List.mem_of_getElem? (i := 144) rfl)) (by decide) (by decide) (by decide) (by decide) ?_
  intro v25 h25 hz25 hQ25
  obtain ⟨x25, k25, rfl, K25, g25, V25⟩ := hQ25
  have z25 := K25.1; have y25 : @LT.lt Nat _ x25 h25.size := V25.lt
  refine g_putF B (hw _ (List.mem_of_getElem? (i := 29) rfl)) Via.refl ((PV.other W24 (Or.inr (slot_ne (Or.inr (hw _ (List.mem_of_getElem? (i := 30) rfl))) (Or.inr (hw _ (List.mem_of_getElem? (i := 28) rfl))) (by decide) (t := (.array .byte)) (t' := .byte) (by decide) (by decide)))).keep K25 nin0) ((PE.wr W24).keep K25) (Or.inr ⟨(hw _ (List.mem_of_getElem? (i := 30) rfl)), rfl, rfl⟩) (hw _ (List.mem_of_getElem? (i := 3) rfl)) (ty := (.array .byte)) (by decide) rfl rfl d27_35 nos (by omega) (q := 38) rfl ?_
  intro h26 W26 F26
  have z26 := W26.size
  refine gs (mkF m 97 _ []) (fun T A t k => XS.goto A B.x rfl (pc0 := 38) (pc' := 97) rfl (B.d d27_38) (by decide) (by decide) k) ?_
  exact g_ret0 B d27_97 (by decide) (by decide) ⟨rfl, ((((Keep.refl h0 [a1]).wr W24 (Or.inl (by simp))).trans K25 all0).wr W26 (Or.inl (by simp))), _, _, (by omega), (((PE.wr W24).keep K25).wr W26), F26, ((F24.keep K25 nin0).other W26 (Or.inr (slot_ne (Or.inr (hw _ (List.mem_of_getElem? (i := 28) rfl))) (Or.inr (hw _ (List.mem_of_getElem? (i := 30) rfl))) (by decide) (t := .byte) (t' := (.array .byte)) (by decide) (by decide)))), (V25.other W26 (by omega : @Ne Nat x25 a1))⟩
theorem pd_28Ljava2flang2fAbstractStringBuilder3bLjava2flang2fVoid3b29V : parseMethodDescriptor "(Ljava/lang/AbstractStringBuilder;Ljava/lang/Void;)V" = some ⟨[(.object "java/lang/AbstractStringBuilder"), (.object "java/lang/Void")], none⟩ := by decide +kernel
theorem d26_3 : decode jdk_42_method_53_code 3 = .ok (.invokespecial 489, 3) := by decide +kernel
theorem d26_6 : decode jdk_42_method_53_code 6 = .ok (.return_, 1) := by decide +kernel
set_option maxRecDepth 65536 in
set_option maxHeartbeats 40000000 in
theorem n_sini_35 (l : Launch) (Z : State) (a0 : Array Value) (hw : ∀ d ∈ tables_1, d.before a0 Z = true) (hEL : EW Z a0 []) (a1 : Addr) (a2 : Addr) (zc : Int32) (rv : Value) (tb : Addr) (kb : ClassId) (v0 v1 v2 v3 v4 v5 v6 v7 v8 v9 v10 v11 v12 v13 v14 v15 v16 v17 v18 v19 v20 v21 v22 v23 v24 v25 v26 v27 v28 v29 v30 v31 v32 v33 v34 v35 v36 v37 v38 v39 v40 v41 v42 v43 v44 v45 v46 v47 v48 v49 v50 v51 v52 v53 v54 v55 v56 v57 v58 v59 v60 v61 v62 v63 v64 v65 v66 v67 v68 v69 : Value) (h0 : Heap) (n0 : Nat) (PE : Exa Z h0 a1 "java/lang/String") (PV : Fld Z h0 a1 "java/lang/String" "value" "[B" .null) (PC : Fld Z h0 a1 "java/lang/String" "coder" "B" (.int (0 : Int32))) (PB : SBN Z h0 a2 tb kb (70 : Int32) (35 : Int32) [v0, v1, v2, v3, v4, v5, v6, v7, v8, v9, v10, v11, v12, v13, v14, v15, v16, v17, v18, v19, v20, v21, v22, v23, v24, v25, v26, v27, v28, v29, v30, v31, v32, v33, v34, v35, v36, v37, v38, v39, v40, v41, v42, v43, v44, v45, v46, v47, v48, v49, v50, v51, v52, v53, v54, v55, v56, v57, v58, v59, v60, v61, v62, v63, v64, v65, v66, v67, v68, v69]) (hn : @LE.le Nat _ n0 h0.size) (hd : @LE.le Nat _ n0 a1) (hne : @Ne Nat a1 a2) (hnt : @Ne Nat a1 tb) (PX : Sts Z zc rv) (PO : Old Z n0 h0) :
    Met false Z [] l (⟨"java/lang/String", "<init>", "(Ljava/lang/StringBuilder;)V"⟩ : MethodName) jdk_42_method_53_code 2 none ({ frames := 4, cells := 1, slots := 35, locals := 65 } : Room) #[(.ref a1), (.ref a2)] h0 [] n0 (fun v h => v = none ∧ Keep h0 h [a1] ∧ ∃ (t : Addr) (k3 : ClassId), @LE.le Nat _ h0.size t ∧ Exa Z h a1 "java/lang/String" ∧ Fld Z h a1 "java/lang/String" "value" "[B" (.ref t) ∧ Fld Z h a1 "java/lang/String" "coder" "B" (.int (0 : Int32)) ∧ Arv Z h t k3 .byte (35 : Int32) [v0, v1, v2, v3, v4, v5, v6, v7, v8, v9, v10, v11, v12, v13, v14, v15, v16, v17, v18, v19, v20, v21, v22, v23, v24, v25, v26, v27, v28, v29, v30, v31, v32, v33, v34] (.int (0 : Int32))) := by
  refine Met.of (a0 := a0) (Ls := #[.val (.ref a1), .val (.ref a2)]) (fun z => rfl) (plainFor_of_name pn_java_lang_String) hEL (fun m => by first | (simp [entryFrame, mkF, argsToLocals, Value.category]; done) | rfl) ?_
  intro p e s m below meth c B hSf
  obtain ⟨SC, hzc, SF, rf⟩ := id PX
  have hlt1 : @LT.lt Nat _ a1 h0.size := PE.lt
  obtain ⟨BE, BV, BC, BN, BA⟩ := id PB
  refine gs (mkF m 1 _ [(.ref a1)]) (fun T A t k => XS.aloadN A B.x rfl (B.d d26_0) rfl rfl k) ?_
  refine gs (mkF m 2 _ [(.ref a2), (.ref a1)]) (fun T A t k => XS.aloadN A B.x rfl (B.d d26_1) rfl rfl k) ?_
  refine gs (mkF m 3 _ [.null, (.ref a2), (.ref a1)]) (fun T A t k => XS.aconstNull A B.x rfl (B.d d26_2) k) ?_
  refine g_metN (c_init B rfl (hw _ (List.mem_of_getElem? (i := 160) rfl)) (hw _ (List.mem_of_getElem? (i := 161) rfl)) (hw _ (List.mem_of_getElem? (i := 162) rfl)) (by decide) rfl (lenOf pd_28Ljava2flang2fAbstractStringBuilder3bLjava2flang2fVoid3b29V rfl) rfl (Nat.le_of_eq rfl) d26_3 rfl (argsL := [(.ref a2), .null]) (rest := []) (W := 0) (q := 6)) (n_siniv_35 l Z a0 hw hEL a1 a2 zc rv tb kb v0 v1 v2 v3 v4 v5 v6 v7 v8 v9 v10 v11 v12 v13 v14 v15 v16 v17 v18 v19 v20 v21 v22 v23 v24 v25 v26 v27 v28 v29 v30 v31 v32 v33 v34 v35 v36 v37 v38 v39 v40 v41 v42 v43 v44 v45 v46 v47 v48 v49 v50 v51 v52 v53 v54 v55 v56 v57 v58 v59 v60 v61 v62 v63 v64 v65 v66 v67 v68 v69 h0 n0 PE PV PC ⟨BE, BV, BC, BN, BA⟩ (by omega) (by omega) (by omega) (by omega) PX PO) (hw _ (List.mem_of_getElem? (i := 162) rfl)) (hw _ (List.mem_of_getElem? (i := 4) rfl)) (by decide) (by decide) (by decide) (by decide) ?_
  intro v21 h21 hz21 hQ21
  obtain ⟨rfl, K9, t9, k9, g9, Q9⟩ := hQ21
  exact g_ret0 B d26_6 (by decide) (by decide) ⟨rfl, K9, _, _, g9, Q9⟩
theorem pd_28Ljava2flang2fStringBuilder3b29V : parseMethodDescriptor "(Ljava/lang/StringBuilder;)V" = some ⟨[(.object "java/lang/StringBuilder")], none⟩ := by decide +kernel
theorem d25_5 : decode jdk_67_method_42_code 5 = .ok (.invokespecial 137, 3) := by decide +kernel
theorem d25_8 : decode jdk_67_method_42_code 8 = .ok (.areturn, 1) := by decide +kernel
set_option maxRecDepth 65536 in
set_option maxHeartbeats 40000000 in
theorem n_tost_35 (l : Launch) (Z : State) (a0 : Array Value) (hw : ∀ d ∈ tables_1, d.before a0 Z = true) (hEL : EW Z a0 []) (a1 : Addr) (zc : Int32) (rv : Value) (tb : Addr) (kb : ClassId) (v0 v1 v2 v3 v4 v5 v6 v7 v8 v9 v10 v11 v12 v13 v14 v15 v16 v17 v18 v19 v20 v21 v22 v23 v24 v25 v26 v27 v28 v29 v30 v31 v32 v33 v34 v35 v36 v37 v38 v39 v40 v41 v42 v43 v44 v45 v46 v47 v48 v49 v50 v51 v52 v53 v54 v55 v56 v57 v58 v59 v60 v61 v62 v63 v64 v65 v66 v67 v68 v69 : Value) (h0 : Heap) (n0 : Nat) (PB : SBN Z h0 a1 tb kb (70 : Int32) (35 : Int32) [v0, v1, v2, v3, v4, v5, v6, v7, v8, v9, v10, v11, v12, v13, v14, v15, v16, v17, v18, v19, v20, v21, v22, v23, v24, v25, v26, v27, v28, v29, v30, v31, v32, v33, v34, v35, v36, v37, v38, v39, v40, v41, v42, v43, v44, v45, v46, v47, v48, v49, v50, v51, v52, v53, v54, v55, v56, v57, v58, v59, v60, v61, v62, v63, v64, v65, v66, v67, v68, v69]) (hn : @LE.le Nat _ n0 h0.size) (PX : Sts Z zc rv) (PO : Old Z n0 h0) :
    Met false Z [] l (⟨"java/lang/StringBuilder", "toString", "()Ljava/lang/String;"⟩ : MethodName) jdk_67_method_42_code 1 (some (.object "java/lang/String")) ({ frames := 5, cells := 2, slots := 39, locals := 79 } : Room) #[(.ref a1)] h0 [] n0 (fun v h => ∃ (x t : Addr) (k3 : ClassId), v = some (.ref x) ∧ Keep h0 h [] ∧ @LE.le Nat _ h0.size x ∧ @LE.le Nat _ h0.size t ∧ Exa Z h x "java/lang/String" ∧ Fld Z h x "java/lang/String" "value" "[B" (.ref t) ∧ Fld Z h x "java/lang/String" "coder" "B" (.int (0 : Int32)) ∧ Arv Z h t k3 .byte (35 : Int32) [v0, v1, v2, v3, v4, v5, v6, v7, v8, v9, v10, v11, v12, v13, v14, v15, v16, v17, v18, v19, v20, v21, v22, v23, v24, v25, v26, v27, v28, v29, v30, v31, v32, v33, v34] (.int (0 : Int32))) := by
  refine Met.of (a0 := a0) (Ls := #[.val (.ref a1)]) (fun z => rfl) (plainFor_of_name pn_java_lang_StringBuilder) hEL (fun m => by first | (simp [entryFrame, mkF, argsToLocals, Value.category]; done) | rfl) ?_
  intro p e s m below meth c B hSf
  obtain ⟨SC, hzc, SF, rf⟩ := id PX
  obtain ⟨BE, BV, BC, BN, BA⟩ := id PB
  have hlt1 : @LT.lt Nat _ a1 h0.size := BE.lt; have hlt2 : @LT.lt Nat _ tb h0.size := BA.lt
  refine g_newO B (hw _ (List.mem_of_getElem? (i := 156) rfl)) (hw _ (List.mem_of_getElem? (i := 3) rfl)) (hw _ (List.mem_of_getElem? (i := 4) rfl)) d25_0 (by decide) (by decide) (q := 3) rfl ?_
  intro h21 b21 g21 E21 S21 A21 D21
  have z21 := E21.1; have y21 : @LT.lt Nat _ b21 h21.size := A21.lt
  have F21_coder : Fld Z h21 b21 "java/lang/String" "coder" "B" (.int (0 : Int32)) := D21 (Or.inr (hw _ (List.mem_of_getElem? (i := 28) rfl))) (ty := .byte) (by decide)
  have F21_value : Fld Z h21 b21 "java/lang/String" "value" "[B" .null := D21 (Or.inr (hw _ (List.mem_of_getElem? (i := 30) rfl))) (ty := (.array .byte)) (by decide)
  refine gs (mkF m 4 _ [(.ref b21), (.ref b21)]) (fun T A t k => XS.dup A B.x rfl (B.d d25_3) rfl rfl k) ?_
  refine gs (mkF m 5 _ [(.ref a1), (.ref b21), (.ref b21)]) (fun T A t k => XS.aloadN A B.x rfl (B.d d25_4) rfl rfl k) ?_
  refine g_metN (c_init B rfl (hw _ (List.mem_of_getElem? (i := 157) rfl)) (hw _ (List.mem_of_getElem? (i := 158) rfl)) (hw _ (List.mem_of_getElem? (i := 159) rfl)) (by decide) rfl (lenOf pd_28Ljava2flang2fStringBuilder3b29V rfl) rfl (Nat.le_of_eq rfl) d25_5 rfl (argsL := [(.ref a1)]) (rest := [(.ref b21)]) (W := 1) (q := 8)) (n_sini_35 l Z a0 hw hEL b21 a1 zc rv tb kb v0 v1 v2 v3 v4 v5 v6 v7 v8 v9 v10 v11 v12 v13 v14 v15 v16 v17 v18 v19 v20 v21 v22 v23 v24 v25 v26 v27 v28 v29 v30 v31 v32 v33 v34 v35 v36 v37 v38 v39 v40 v41 v42 v43 v44 v45 v46 v47 v48 v49 v50 v51 v52 v53 v54 v55 v56 v57 v58 v59 v60 v61 v62 v63 v64 v65 v66 v67 v68 v69 h21 n0 A21 F21_value F21_coder ⟨(BE.ext E21), (BV.ext E21), (BC.ext E21), (BN.ext E21), (BA.ext E21)⟩ (by omega) (by omega) (by omega) (by omega) PX (PO.ext E21)) (hw _ (List.mem_of_getElem? (i := 159) rfl)) (hw _ (List.mem_of_getElem? (i := 4) rfl)) (by decide) (by decide) (by decide) (by decide) ?_
  intro v22 h22 hz22 hQ22
  obtain ⟨rfl, K22, t22, k22, g22, E22, F22v, F22c, V22⟩ := hQ22
  have z22 := K22.1; have y22 : @LT.lt Nat _ t22 h22.size := V22.lt
  exact g_retA B rfl rfl d25_8 (by decide) (by decide) ⟨_, _, _, rfl, (((Keep.refl h0 []).ext E21).trans K22 (allS (Or.inr (by omega)) all0)), (by omega), (by omega), E22, F22v, F22c, V22⟩
theorem pd_2829Ljava2flang2fString3b : parseMethodDescriptor "()Ljava/lang/String;" = some ⟨[], some (.object "java/lang/String")⟩ := by decide +kernel
theorem d9_24 : decode prog_15_method_7_code 24 = .ok (.invokevirtual 44, 3) := by decide +kernel
theorem d9_27 : decode prog_15_method_7_code 27 = .ok (.areturn, 1) := by decide +kernel
set_option maxRecDepth 65536 in
set_option maxHeartbeats 40000000 in
theorem w_inv_48 (l : Launch) (Z : State) (a0 : Array Value) (hw : ∀ d ∈ tables_1, d.before a0 Z = true) (hEL : EW Z a0 consts_1) (a1 : Addr) (zc : Int32) (rv : Value) (s2 t2 : Addr) (h0 : Heap) (n0 : Nat) (PT : Exa Z h0 a1 "com/example/affixity/affixity/ocfl/OcflVersion") (PF : Fld Z h0 a1 "com/example/affixity/affixity/ocfl/OcflVersion" "number" "Ljava/lang/String;" (.ref s2)) (PS : Str Z h0 s2 t2 [(49 : Int32), (46 : Int32), (48 : Int32)]) (hn : @LE.le Nat _ n0 h0.size) (PX : Sts Z zc rv) (PO : Old Z n0 h0) :
    Met true Z consts_1 l (⟨"com/example/affixity/affixity/ocfl/OcflVersion", "inventoryType", "()Ljava/lang/String;"⟩ : MethodName) prog_15_method_7_code 1 (some (.object "java/lang/String")) ({ frames := 6, cells := 10, slots := 299, locals := 91 } : Room) #[(.ref a1)] h0 [] n0 (fun v h => ∃ x t : Addr, v = some (.ref x) ∧ Keep h0 h [] ∧ Str Z h x t (inv 48)) := by
  refine Met.of (a0 := a0) (Ls := #[.val (.ref a1)]) (fun z => (nomatch z)) (plainFor_of_name pn_com_example_affixity_affixity_ocfl_OcflVersion) hEL (fun m => by first | (simp [entryFrame, mkF, argsToLocals, Value.category]; done) | rfl) ?_
  intro p e s m below meth c B hSf
  refine g_wt (fun Wt0 => ?_)
  obtain ⟨SC, hzc, SF, rf⟩ := id PX
  have hlt1 : @LT.lt Nat _ a1 h0.size := PT.lt; have ha1 := PS.lt; have ha2 := PS.lt'
  obtain ⟨SE, SW, SO, sk, SA'⟩ := PS.lat (by decide)
  have SA : Arv Z h0 t2 sk .byte (3 : Int32) [(.int (49 : Int32)), (.int (46 : Int32)), (.int (48 : Int32))] (.int (0 : Int32)) := SA'
  refine g_newO B (hw _ (List.mem_of_getElem? (i := 57) rfl)) (hw _ (List.mem_of_getElem? (i := 58) rfl)) (hw _ (List.mem_of_getElem? (i := 59) rfl)) d9_0 (by decide) (by decide) (q := 3) rfl ?_
  intro h21 b21 g21 E21 S21 A21 D21
  refine g_wt (fun Wt22 => ?_)
  have z21 := E21.1; have y21 : @LT.lt Nat _ b21 h21.size := A21.lt
  have F21_value : Fld Z h21 b21 "java/lang/AbstractStringBuilder" "value" "[B" .null := D21 (Or.inl (hw _ (List.mem_of_getElem? (i := 72) rfl))) (ty := (.array .byte)) (by decide)
  have F21_coder : Fld Z h21 b21 "java/lang/AbstractStringBuilder" "coder" "B" (.int (0 : Int32)) := D21 (Or.inl (hw _ (List.mem_of_getElem? (i := 74) rfl))) (ty := .byte) (by decide)
  have F21_count : Fld Z h21 b21 "java/lang/AbstractStringBuilder" "count" "I" (.int (0 : Int32)) := D21 (Or.inl (hw _ (List.mem_of_getElem? (i := 99) rfl))) (ty := .int) (by decide)
  refine gs (mkF m 4 _ [(.ref b21), (.ref b21)]) (fun T A t k => XS.dup A B.x rfl (B.d d9_3) rfl rfl k) ?_
  refine g_metP (c_init B rfl (hw _ (List.mem_of_getElem? (i := 60) rfl)) (hw _ (List.mem_of_getElem? (i := 61) rfl)) (hw _ (List.mem_of_getElem? (i := 62) rfl)) (by decide) rfl (lenOf pd_2829V rfl) rfl (Nat.le_of_eq rfl) d9_4 rfl (argsL := []) (rest := [(.ref b21)]) (W := 1) (q := 7)) (n_bini_s l Z a0 hw EW.nil b21 zc rv h21 n0 A21 F21_value F21_coder F21_count (by omega) (by omega) PX (PO.ext E21)) (hw _ (List.mem_of_getElem? (i := 62) rfl)) (hw _ (List.mem_of_getElem? (i := 59) rfl)) (by decide) (by decide) (by decide) (by decide) (fun v h' q => ⟨[b21], q.2.1, sfS (Safe.exa Wt22.1.alike A21 (by decide) (by decide)) sf0⟩) ?_
  intro v23 h23 hz23 hQ23
  obtain ⟨rfl, K23, t23, k23, g23, E23, F23v, F23c, F23n, V23⟩ := hQ23
  refine g_wt (fun Wt24 => ?_)
  have z23 := K23.1; have y23 : @LT.lt Nat _ t23 h23.size := V23.lt
  have sT0 : Safe Z consts_1 _ _ t23 := (Safe.keep K23 (sfS S21 sf0) Wt22.2.2.1.1 (Safe.new g23)); have sO0 : Safe Z consts_1 _ _ b21 := (Safe.exa Wt24.1.alike E23 (by decide) (by decide))
  refine g_ldcS (z := (16 : Int32)) (vs := [(.int (104 : Int32)), (.int (116 : Int32)), (.int (116 : Int32)), (.int (112 : Int32)), (.int (115 : Int32)), (.int (58 : Int32)), (.int (47 : Int32)), (.int (47 : Int32)), (.int (111 : Int32)), (.int (99 : Int32)), (.int (102 : Int32)), (.int (108 : Int32)), (.int (46 : Int32)), (.int (105 : Int32)), (.int (111 : Int32)), (.int (47 : Int32))]) (n := 64) B (hw _ (List.mem_of_getElem? (i := 75) rfl)) (fun d hd => hw d (own_wstr d hd)) (by decide) (by decide) (by decide) rfl d9_7 (by decide) (by decide) (by decide) (by decide) (q := 9) rfl ?_
  intro h25 vm25 b25 t25 k25 hZ25 E25 C25 A25 F25c F25v V25 N25
  refine g_wt (fun Wt26 => ?_)
  have X25 : Str Z h25 b25 t25 [(104 : Int32), (116 : Int32), (116 : Int32), (112 : Int32), (115 : Int32), (58 : Int32), (47 : Int32), (47 : Int32), (111 : Int32), (99 : Int32), (102 : Int32), (108 : Int32), (46 : Int32), (105 : Int32), (111 : Int32), (47 : Int32)] := Str.mk0 A25 F25v F25c V25 rfl rfl (by decide) (by decide)
  have z25 := E25.1; have y25 := X25.lt; have x25 := X25.lt'
  have sT1 : Safe Z consts_1 _ _ t23 := (C25.safe V23.lt sT0); have sO1 : Safe Z consts_1 _ _ b21 := (Safe.exa Wt26.1.alike (E23.ext E25) (by decide) (by decide))
  have nn1 := N25 b21 sO1
  refine g_metP (c_virt B (E23.ext E25) (hw _ (List.mem_of_getElem? (i := 78) rfl)) (hw _ (List.mem_of_getElem? (i := 79) rfl)) (hw _ (List.mem_of_getElem? (i := 81) rfl)) (hw _ (List.mem_of_getElem? (i := 80) rfl)) (nfs (z := (⟨"java/lang/StringBuilder", "append", "(Ljava/lang/String;)Ljava/lang/StringBuilder;"⟩ : MethodName)) (hw _ (List.mem_of_getElem? (i := 81) rfl))) (by decide) rfl (lenOf pd_28Ljava2flang2fString3b29Ljava2flang2fStringBuilder3b rfl) rfl (Nat.le_of_eq rfl) d9_9 rfl (argsL := [(.ref b25)]) (rest := []) (W := 0) (q := 12)) (n_sapp_16_0_16 l Z a0 hw EW.nil b21 b25 zc rv t23 k23 (.int (0 : Int32)) (.int (0 : Int32)) (.int (0 : Int32)) (.int (0 : Int32)) (.int (0 : Int32)) (.int (0 : Int32)) (.int (0 : Int32)) (.int (0 : Int32)) (.int (0 : Int32)) (.int (0 : Int32)) (.int (0 : Int32)) (.int (0 : Int32)) (.int (0 : Int32)) (.int (0 : Int32)) (.int (0 : Int32)) (.int (0 : Int32)) t25 k25 (.int (104 : Int32)) (.int (116 : Int32)) (.int (116 : Int32)) (.int (112 : Int32)) (.int (115 : Int32)) (.int (58 : Int32)) (.int (47 : Int32)) (.int (47 : Int32)) (.int (111 : Int32)) (.int (99 : Int32)) (.int (102 : Int32)) (.int (108 : Int32)) (.int (46 : Int32)) (.int (105 : Int32)) (.int (111 : Int32)) (.int (47 : Int32)) h25 n0 ⟨(E23.ext E25), (F23v.ext E25), (F23c.ext E25), (F23n.ext E25), (V23.ext E25)⟩ X25.exa F25c F25v V25 (by omega) (by omega) (by omega) (by omega) (by omega) (by omega) PX (((PO.ext E21).keep K23 (allS (by omega) all0)).ext E25)) (hw _ (List.mem_of_getElem? (i := 82) rfl)) (hw _ (List.mem_of_getElem? (i := 59) rfl)) (by decide) (by decide) (by decide) (by decide) (fun v h' q => ⟨[b21, t23], q.2.1, sfS (Safe.exa Wt26.1.alike (E23.ext E25) (by decide) (by decide)) (sfS sT1 sf0)⟩) ?_
  intro v27 h27 hz27 hQ27
  obtain ⟨rfl, K27, E27, F27v, F27c, F27n, V27⟩ := hQ27
  refine g_wt (fun Wt28 => ?_)
  have z27 := K27.1; have y27 : @LT.lt Nat _ t23 h27.size := V27.lt
  have sT2 : Safe Z consts_1 _ _ t23 := (Safe.keep K27 (sfS sO1 (sfS sT1 sf0)) Wt26.2.2.1.1 sT1); have sO2 : Safe Z consts_1 _ _ b21 := (Safe.exa Wt28.1.alike E27 (by decide) (by decide))
  refine gs (mkF m 13 _ [(.ref a1), (.ref b21)]) (fun T A t k => XS.aloadN A B.x rfl (B.d d9_12) rfl rfl k) ?_
  refine g_getF B (hw _ (List.mem_of_getElem? (i := 125) rfl)) Via.refl ((((PF.ext E21).keep K23 (ninS (by omega : @Ne Nat a1 b21) nin0)).ext E25).keep K27 (ninS (by omega : @Ne Nat a1 b21) (ninS (by omega : @Ne Nat a1 t23) nin0))) d9_13 (q := 16) rfl ?_
  refine g_metP (c_virt B E27 (hw _ (List.mem_of_getElem? (i := 78) rfl)) (hw _ (List.mem_of_getElem? (i := 79) rfl)) (hw _ (List.mem_of_getElem? (i := 81) rfl)) (hw _ (List.mem_of_getElem? (i := 80) rfl)) (nfs (z := (⟨"java/lang/StringBuilder", "append", "(Ljava/lang/String;)Ljava/lang/StringBuilder;"⟩ : MethodName)) (hw _ (List.mem_of_getElem? (i := 81) rfl))) (by decide) rfl (lenOf pd_28Ljava2flang2fString3b29Ljava2flang2fStringBuilder3b rfl) rfl (Nat.le_of_eq rfl) d9_16 rfl (argsL := [(.ref s2)]) (rest := []) (W := 0) (q := 19)) (n_sapp_16_16_3 l Z a0 hw EW.nil b21 s2 zc rv t23 k23 (.int (104 : Int32)) (.int (116 : Int32)) (.int (116 : Int32)) (.int (112 : Int32)) (.int (115 : Int32)) (.int (58 : Int32)) (.int (47 : Int32)) (.int (47 : Int32)) (.int (111 : Int32)) (.int (99 : Int32)) (.int (102 : Int32)) (.int (108 : Int32)) (.int (46 : Int32)) (.int (105 : Int32)) (.int (111 : Int32)) (.int (47 : Int32)) t2 sk (.int (49 : Int32)) (.int (46 : Int32)) (.int (48 : Int32)) h27 n0 ⟨E27, F27v, F27c, F27n, V27⟩ ((((SE.ext E21).keep K23).ext E25).keep K27) ((((SO.ext E21).keep K23 (ninS (by omega : @Ne Nat s2 b21) nin0)).ext E25).keep K27 (ninS (by omega : @Ne Nat s2 b21) (ninS (by omega : @Ne Nat s2 t23) nin0))) ((((SW.ext E21).keep K23 (ninS (by omega : @Ne Nat s2 b21) nin0)).ext E25).keep K27 (ninS (by omega : @Ne Nat s2 b21) (ninS (by omega : @Ne Nat s2 t23) nin0))) ((((SA.ext E21).keep K23 (ninS (by omega : @Ne Nat t2 b21) nin0)).ext E25).keep K27 (ninS (by omega : @Ne Nat t2 b21) (ninS (by omega : @Ne Nat t2 t23) nin0))) (by omega) (by omega) (by omega) (by omega) (by omega) (by omega) PX ((((PO.ext E21).keep K23 (allS (by omega) all0)).ext E25).keep K27 (allS (by omega) (allS (by omega) all0)))) (hw _ (List.mem_of_getElem? (i := 82) rfl)) (hw _ (List.mem_of_getElem? (i := 59) rfl)) (by decide) (by decide) (by decide) (by decide) (fun v h' q => ⟨[b21], q.2.1, sfS (Safe.exa Wt28.1.alike E27 (by decide) (by decide)) sf0⟩) ?_
  intro v29 h29 hz29 hQ29
  obtain ⟨rfl, K29, t29, k29, g29, E29, F29v, F29c, F29n, V29⟩ := hQ29
  refine g_wt (fun Wt30 => ?_)
  have z29 := K29.1; have y29 : @LT.lt Nat _ t29 h29.size := V29.lt
  have sT3 : Safe Z consts_1 _ _ t29 := (Safe.keep K29 (sfS sO2 sf0) Wt28.2.2.1.1 (Safe.new g29)); have sO3 : Safe Z consts_1 _ _ b21 := (Safe.exa Wt30.1.alike E29 (by decide) (by decide))
  refine g_ldcS (z := (16 : Int32)) (vs := [(.int (47 : Int32)), (.int (115 : Int32)), (.int (112 : Int32)), (.int (101 : Int32)), (.int (99 : Int32)), (.int (47 : Int32)), (.int (35 : Int32)), (.int (105 : Int32)), (.int (110 : Int32)), (.int (118 : Int32)), (.int (101 : Int32)), (.int (110 : Int32)), (.int (116 : Int32)), (.int (111 : Int32)), (.int (114 : Int32)), (.int (121 : Int32))]) (n := 64) B (hw _ (List.mem_of_getElem? (i := 150) rfl)) (fun d hd => hw d (own_wstr d hd)) (by decide) (by decide) (by decide) rfl d9_19 (by decide) (by decide) (by decide) (by decide) (q := 21) rfl ?_
  intro h31 vm31 b31 t31 k31 hZ31 E31 C31 A31 F31c F31v V31 N31
  refine g_wt (fun Wt32 => ?_)
  have X31 : Str Z h31 b31 t31 [(47 : Int32), (115 : Int32), (112 : Int32), (101 : Int32), (99 : Int32), (47 : Int32), (35 : Int32), (105 : Int32), (110 : Int32), (118 : Int32), (101 : Int32), (110 : Int32), (116 : Int32), (111 : Int32), (114 : Int32), (121 : Int32)] := Str.mk0 A31 F31v F31c V31 rfl rfl (by decide) (by decide)
  have z31 := E31.1; have y31 := X31.lt; have x31 := X31.lt'
  have sT4 : Safe Z consts_1 _ _ t29 := (C31.safe V29.lt sT3); have sO4 : Safe Z consts_1 _ _ b21 := (Safe.exa Wt32.1.alike (E29.ext E31) (by decide) (by decide))
  have nn2 := N31 b21 sO4
  refine g_metP (c_virt B (E29.ext E31) (hw _ (List.mem_of_getElem? (i := 78) rfl)) (hw _ (List.mem_of_getElem? (i := 79) rfl)) (hw _ (List.mem_of_getElem? (i := 81) rfl)) (hw _ (List.mem_of_getElem? (i := 80) rfl)) (nfs (z := (⟨"java/lang/StringBuilder", "append", "(Ljava/lang/String;)Ljava/lang/StringBuilder;"⟩ : MethodName)) (hw _ (List.mem_of_getElem? (i := 81) rfl))) (by decide) rfl (lenOf pd_28Ljava2flang2fString3b29Ljava2flang2fStringBuilder3b rfl) rfl (Nat.le_of_eq rfl) d9_21 rfl (argsL := [(.ref b31)]) (rest := []) (W := 0) (q := 24)) (n_sapp_34_19_16 l Z a0 hw EW.nil b21 b31 zc rv t29 k29 (.int (104 : Int32)) (.int (116 : Int32)) (.int (116 : Int32)) (.int (112 : Int32)) (.int (115 : Int32)) (.int (58 : Int32)) (.int (47 : Int32)) (.int (47 : Int32)) (.int (111 : Int32)) (.int (99 : Int32)) (.int (102 : Int32)) (.int (108 : Int32)) (.int (46 : Int32)) (.int (105 : Int32)) (.int (111 : Int32)) (.int (47 : Int32)) (.int (49 : Int32)) (.int (46 : Int32)) (.int (48 : Int32)) (.int (0 : Int32)) (.int (0 : Int32)) (.int (0 : Int32)) (.int (0 : Int32)) (.int (0 : Int32)) (.int (0 : Int32)) (.int (0 : Int32)) (.int (0 : Int32)) (.int (0 : Int32)) (.int (0 : Int32)) (.int (0 : Int32)) (.int (0 : Int32)) (.int (0 : Int32)) (.int (0 : Int32)) (.int (0 : Int32)) t31 k31 (.int (47 : Int32)) (.int (115 : Int32)) (.int (112 : Int32)) (.int (101 : Int32)) (.int (99 : Int32)) (.int (47 : Int32)) (.int (35 : Int32)) (.int (105 : Int32)) (.int (110 : Int32)) (.int (118 : Int32)) (.int (101 : Int32)) (.int (110 : Int32)) (.int (116 : Int32)) (.int (111 : Int32)) (.int (114 : Int32)) (.int (121 : Int32)) h31 n0 ⟨(E29.ext E31), (F29v.ext E31), (F29c.ext E31), (F29n.ext E31), (V29.ext E31)⟩ X31.exa F31c F31v V31 (by omega) (by omega) (by omega) (by omega) (by omega) (by omega) PX ((((((PO.ext E21).keep K23 (allS (by omega) all0)).ext E25).keep K27 (allS (by omega) (allS (by omega) all0))).keep K29 (allS (by omega) all0)).ext E31)) (hw _ (List.mem_of_getElem? (i := 82) rfl)) (hw _ (List.mem_of_getElem? (i := 59) rfl)) (by decide) (by decide) (by decide) (by decide) (fun v h' q => ⟨[b21], q.2.1, sfS (Safe.exa Wt32.1.alike (E29.ext E31) (by decide) (by decide)) sf0⟩) ?_
  intro v33 h33 hz33 hQ33
  obtain ⟨rfl, K33, t33, k33, g33, E33, F33v, F33c, F33n, V33⟩ := hQ33
  refine g_wt (fun Wt34 => ?_)
  have z33 := K33.1; have y33 : @LT.lt Nat _ t33 h33.size := V33.lt
  refine g_metP (c_virt B E33 (hw _ (List.mem_of_getElem? (i := 151) rfl)) (hw _ (List.mem_of_getElem? (i := 152) rfl)) (hw _ (List.mem_of_getElem? (i := 154) rfl)) (hw _ (List.mem_of_getElem? (i := 153) rfl)) (nfs (z := (⟨"java/lang/StringBuilder", "toString", "()Ljava/lang/String;"⟩ : MethodName)) (hw _ (List.mem_of_getElem? (i := 154) rfl))) (by decide) rfl (lenOf pd_2829Ljava2flang2fString3b rfl) rfl (Nat.le_of_eq rfl) d9_24 rfl (argsL := []) (rest := []) (W := 0) (q := 27)) (n_tost_35 l Z a0 hw EW.nil b21 zc rv t33 k33 (.int (104 : Int32)) (.int (116 : Int32)) (.int (116 : Int32)) (.int (112 : Int32)) (.int (115 : Int32)) (.int (58 : Int32)) (.int (47 : Int32)) (.int (47 : Int32)) (.int (111 : Int32)) (.int (99 : Int32)) (.int (102 : Int32)) (.int (108 : Int32)) (.int (46 : Int32)) (.int (105 : Int32)) (.int (111 : Int32)) (.int (47 : Int32)) (.int (49 : Int32)) (.int (46 : Int32)) (.int (48 : Int32)) (.int (47 : Int32)) (.int (115 : Int32)) (.int (112 : Int32)) (.int (101 : Int32)) (.int (99 : Int32)) (.int (47 : Int32)) (.int (35 : Int32)) (.int (105 : Int32)) (.int (110 : Int32)) (.int (118 : Int32)) (.int (101 : Int32)) (.int (110 : Int32)) (.int (116 : Int32)) (.int (111 : Int32)) (.int (114 : Int32)) (.int (121 : Int32)) (.int (0 : Int32)) (.int (0 : Int32)) (.int (0 : Int32)) (.int (0 : Int32)) (.int (0 : Int32)) (.int (0 : Int32)) (.int (0 : Int32)) (.int (0 : Int32)) (.int (0 : Int32)) (.int (0 : Int32)) (.int (0 : Int32)) (.int (0 : Int32)) (.int (0 : Int32)) (.int (0 : Int32)) (.int (0 : Int32)) (.int (0 : Int32)) (.int (0 : Int32)) (.int (0 : Int32)) (.int (0 : Int32)) (.int (0 : Int32)) (.int (0 : Int32)) (.int (0 : Int32)) (.int (0 : Int32)) (.int (0 : Int32)) (.int (0 : Int32)) (.int (0 : Int32)) (.int (0 : Int32)) (.int (0 : Int32)) (.int (0 : Int32)) (.int (0 : Int32)) (.int (0 : Int32)) (.int (0 : Int32)) (.int (0 : Int32)) (.int (0 : Int32)) (.int (0 : Int32)) h33 n0 ⟨E33, F33v, F33c, F33n, V33⟩ (by omega) PX (((((((PO.ext E21).keep K23 (allS (by omega) all0)).ext E25).keep K27 (allS (by omega) (allS (by omega) all0))).keep K29 (allS (by omega) all0)).ext E31).keep K33 (allS (by omega) all0))) (hw _ (List.mem_of_getElem? (i := 155) rfl)) (hw _ (List.mem_of_getElem? (i := 59) rfl)) (by decide) (by decide) (by decide) (by decide) (fun v h' q => ⟨[], by obtain ⟨x, t, k, -, K, -⟩ := q; exact K, all0⟩) ?_
  intro v35 h35 hz35 hQ35
  obtain ⟨x35, t35, k35, rfl, K35, g35, gg35, E35, F35v, F35c, V35⟩ := hQ35
  refine g_wt (fun Wt36 => ?_)
  have z35 := K35.1; have y35 : @LT.lt Nat _ t35 h35.size := V35.lt
  exact g_retA B rfl rfl d9_27 (by decide) (by decide) ⟨_, _, rfl, (((((((((Keep.refl h0 []).ext E21).trans K23 (allS (Or.inr (by omega)) all0)).ext E25).trans K27 (allS (Or.inr (by omega)) (allS (Or.inr (by omega)) all0))).trans K29 (allS (Or.inr (by omega)) all0)).ext E31).trans K33 (allS (Or.inr (by omega)) all0)).trans K35 all0), Str.mk0 E35 F35v F35c V35 rfl rfl (inv_r8 ⟨by decide, by decide⟩) (by decide)⟩
set_option maxRecDepth 65536 in
set_option maxHeartbeats 40000000 in
theorem w_inv_49 (l : Launch) (Z : State) (a0 : Array Value) (hw : ∀ d ∈ tables_1, d.before a0 Z = true) (hEL : EW Z a0 consts_1) (a1 : Addr) (zc : Int32) (rv : Value) (s2 t2 : Addr) (h0 : Heap) (n0 : Nat) (PT : Exa Z h0 a1 "com/example/affixity/affixity/ocfl/OcflVersion") (PF : Fld Z h0 a1 "com/example/affixity/affixity/ocfl/OcflVersion" "number" "Ljava/lang/String;" (.ref s2)) (PS : Str Z h0 s2 t2 [(49 : Int32), (46 : Int32), (49 : Int32)]) (hn : @LE.le Nat _ n0 h0.size) (PX : Sts Z zc rv) (PO : Old Z n0 h0) :
    Met true Z consts_1 l (⟨"com/example/affixity/affixity/ocfl/OcflVersion", "inventoryType", "()Ljava/lang/String;"⟩ : MethodName) prog_15_method_7_code 1 (some (.object "java/lang/String")) ({ frames := 6, cells := 10, slots := 299, locals := 91 } : Room) #[(.ref a1)] h0 [] n0 (fun v h => ∃ x t : Addr, v = some (.ref x) ∧ Keep h0 h [] ∧ Str Z h x t (inv 49)) := by
  refine Met.of (a0 := a0) (Ls := #[.val (.ref a1)]) (fun z => (nomatch z)) (plainFor_of_name pn_com_example_affixity_affixity_ocfl_OcflVersion) hEL (fun m => by first | (simp [entryFrame, mkF, argsToLocals, Value.category]; done) | rfl) ?_
  intro p e s m below meth c B hSf
  refine g_wt (fun Wt0 => ?_)
  obtain ⟨SC, hzc, SF, rf⟩ := id PX
  have hlt1 : @LT.lt Nat _ a1 h0.size := PT.lt; have ha1 := PS.lt; have ha2 := PS.lt'
  obtain ⟨SE, SW, SO, sk, SA'⟩ := PS.lat (by decide)
  have SA : Arv Z h0 t2 sk .byte (3 : Int32) [(.int (49 : Int32)), (.int (46 : Int32)), (.int (49 : Int32))] (.int (0 : Int32)) := SA'
  refine g_newO B (hw _ (List.mem_of_getElem? (i := 57) rfl)) (hw _ (List.mem_of_getElem? (i := 58) rfl)) (hw _ (List.mem_of_getElem? (i := 59) rfl)) d9_0 (by decide) (by decide) (q := 3) rfl ?_
  intro h21 b21 g21 E21 S21 A21 D21
  refine g_wt (fun Wt22 => ?_)
  have z21 := E21.1; have y21 : @LT.lt Nat _ b21 h21.size := A21.lt
  have F21_value : Fld Z h21 b21 "java/lang/AbstractStringBuilder" "value" "[B" .null := D21 (Or.inl (hw _ (List.mem_of_getElem? (i := 72) rfl))) (ty := (.array .byte)) (by decide)
  have F21_coder : Fld Z h21 b21 "java/lang/AbstractStringBuilder" "coder" "B" (.int (0 : Int32)) := D21 (Or.inl (hw _ (List.mem_of_getElem? (i := 74) rfl))) (ty := .byte) (by decide)
  have F21_count : Fld Z h21 b21 "java/lang/AbstractStringBuilder" "count" "I" (.int (0 : Int32)) := D21 (Or.inl (hw _ (List.mem_of_getElem? (i := 99) rfl))) (ty := .int) (by decide)
  refine gs (mkF m 4 _ [(.ref b21), (.ref b21)]) (fun T A t k => XS.dup A B.x rfl (B.d d9_3) rfl rfl k) ?_
  refine g_metP (c_init B rfl (hw _ (List.mem_of_getElem? (i := 60) rfl)) (hw _ (List.mem_of_getElem? (i := 61) rfl)) (hw _ (List.mem_of_getElem? (i := 62) rfl)) (by decide) rfl (lenOf pd_2829V rfl) rfl (Nat.le_of_eq rfl) d9_4 rfl (argsL := []) (rest := [(.ref b21)]) (W := 1) (q := 7)) (n_bini_s l Z a0 hw EW.nil b21 zc rv h21 n0 A21 F21_value F21_coder F21_count (by omega) (by omega) PX (PO.ext E21)) (hw _ (List.mem_of_getElem? (i := 62) rfl)) (hw _ (List.mem_of_getElem? (i := 59) rfl)) (by decide) (by decide) (by decide) (by decide) (fun v h' q => ⟨[b21], q.2.1, sfS (Safe.exa Wt22.1.alike A21 (by decide) (by decide)) sf0⟩) ?_
  intro v23 h23 hz23 hQ23
  obtain ⟨rfl, K23, t23, k23, g23, E23, F23v, F23c, F23n, V23⟩ := hQ23
  refine g_wt (fun Wt24 => ?_)
  have z23 := K23.1; have y23 : @LT.lt Nat _ t23 h23.size := V23.lt
  have sT0 : Safe Z consts_1 _ _ t23 := (Safe.keep K23 (sfS S21 sf0) Wt22.2.2.1.1 (Safe.new g23)); have sO0 : Safe Z consts_1 _ _ b21 := (Safe.exa Wt24.1.alike E23 (by decide) (by decide))
  refine g_ldcS (z := (16 : Int32)) (vs := [(.int (104 : Int32)), (.int (116 : Int32)), (.int (116 : Int32)), (.int (112 : Int32)), (.int (115 : Int32)), (.int (58 : Int32)), (.int (47 : Int32)), (.int (47 : Int32)), (.int (111 : Int32)), (.int (99 : Int32)), (.int (102 : Int32)), (.int (108 : Int32)), (.int (46 : Int32)), (.int (105 : Int32)), (.int (111 : Int32)), (.int (47 : Int32))]) (n := 64) B (hw _ (List.mem_of_getElem? (i := 75) rfl)) (fun d hd => hw d (own_wstr d hd)) (by decide) (by decide) (by decide) rfl d9_7 (by decide) (by decide) (by decide) (by decide) (q := 9) rfl ?_
  intro h25 vm25 b25 t25 k25 hZ25 E25 C25 A25 F25c F25v V25 N25
  refine g_wt (fun Wt26 => ?_)
  have X25 : Str Z h25 b25 t25 [(104 : Int32), (116 : Int32), (116 : Int32), (112 : Int32), (115 : Int32), (58 : Int32), (47 : Int32), (47 : Int32), (111 : Int32), (99 : Int32), (102 : Int32), (108 : Int32), (46 : Int32), (105 : Int32), (111 : Int32), (47 : Int32)] := Str.mk0 A25 F25v F25c V25 rfl rfl (by decide) (by decide)
  have z25 := E25.1; have y25 := X25.lt; have x25 := X25.lt'
  have sT1 : Safe Z consts_1 _ _ t23 := (C25.safe V23.lt sT0); have sO1 : Safe Z consts_1 _ _ b21 := (Safe.exa Wt26.1.alike (E23.ext E25) (by decide) (by decide))
  have nn1 := N25 b21 sO1
  refine g_metP (c_virt B (E23.ext E25) (hw _ (List.mem_of_getElem? (i := 78) rfl)) (hw _ (List.mem_of_getElem? (i := 79) rfl)) (hw _ (List.mem_of_getElem? (i := 81) rfl)) (hw _ (List.mem_of_getElem? (i := 80) rfl)) (nfs (z := (⟨"java/lang/StringBuilder", "append", "(Ljava/lang/String;)Ljava/lang/StringBuilder;"⟩ : MethodName)) (hw _ (List.mem_of_getElem? (i := 81) rfl))) (by decide) rfl (lenOf pd_28Ljava2flang2fString3b29Ljava2flang2fStringBuilder3b rfl) rfl (Nat.le_of_eq rfl) d9_9 rfl (argsL := [(.ref b25)]) (rest := []) (W := 0) (q := 12)) (n_sapp_16_0_16 l Z a0 hw EW.nil b21 b25 zc rv t23 k23 (.int (0 : Int32)) (.int (0 : Int32)) (.int (0 : Int32)) (.int (0 : Int32)) (.int (0 : Int32)) (.int (0 : Int32)) (.int (0 : Int32)) (.int (0 : Int32)) (.int (0 : Int32)) (.int (0 : Int32)) (.int (0 : Int32)) (.int (0 : Int32)) (.int (0 : Int32)) (.int (0 : Int32)) (.int (0 : Int32)) (.int (0 : Int32)) t25 k25 (.int (104 : Int32)) (.int (116 : Int32)) (.int (116 : Int32)) (.int (112 : Int32)) (.int (115 : Int32)) (.int (58 : Int32)) (.int (47 : Int32)) (.int (47 : Int32)) (.int (111 : Int32)) (.int (99 : Int32)) (.int (102 : Int32)) (.int (108 : Int32)) (.int (46 : Int32)) (.int (105 : Int32)) (.int (111 : Int32)) (.int (47 : Int32)) h25 n0 ⟨(E23.ext E25), (F23v.ext E25), (F23c.ext E25), (F23n.ext E25), (V23.ext E25)⟩ X25.exa F25c F25v V25 (by omega) (by omega) (by omega) (by omega) (by omega) (by omega) PX (((PO.ext E21).keep K23 (allS (by omega) all0)).ext E25)) (hw _ (List.mem_of_getElem? (i := 82) rfl)) (hw _ (List.mem_of_getElem? (i := 59) rfl)) (by decide) (by decide) (by decide) (by decide) (fun v h' q => ⟨[b21, t23], q.2.1, sfS (Safe.exa Wt26.1.alike (E23.ext E25) (by decide) (by decide)) (sfS sT1 sf0)⟩) ?_
  intro v27 h27 hz27 hQ27
  obtain ⟨rfl, K27, E27, F27v, F27c, F27n, V27⟩ := hQ27
  refine g_wt (fun Wt28 => ?_)
  have z27 := K27.1; have y27 : @LT.lt Nat _ t23 h27.size := V27.lt
  have sT2 : Safe Z consts_1 _ _ t23 := (Safe.keep K27 (sfS sO1 (sfS sT1 sf0)) Wt26.2.2.1.1 sT1); have sO2 : Safe Z consts_1 _ _ b21 := (Safe.exa Wt28.1.alike E27 (by decide) (by decide))
  refine gs (mkF m 13 _ [(.ref a1), (.ref b21)]) (fun T A t k => XS.aloadN A B.x rfl (B.d d9_12) rfl rfl k) ?_
  refine g_getF B (hw _ (List.mem_of_getElem? (i := 125) rfl)) Via.refl ((((PF.ext E21).keep K23 (ninS (by omega : @Ne Nat a1 b21) nin0)).ext E25).keep K27 (ninS (by omega : @Ne Nat a1 b21) (ninS (by omega : @Ne Nat a1 t23) nin0))) d9_13 (q := 16) rfl ?_
  refine g_metP (c_virt B E27 (hw _ (List.mem_of_getElem? (i := 78) rfl)) (hw _ (List.mem_of_getElem? (i := 79) rfl)) (hw _ (List.mem_of_getElem? (i := 81) rfl)) (hw _ (List.mem_of_getElem? (i := 80) rfl)) (nfs (z := (⟨"java/lang/StringBuilder", "append", "(Ljava/lang/String;)Ljava/lang/StringBuilder;"⟩ : MethodName)) (hw _ (List.mem_of_getElem? (i := 81) rfl))) (by decide) rfl (lenOf pd_28Ljava2flang2fString3b29Ljava2flang2fStringBuilder3b rfl) rfl (Nat.le_of_eq rfl) d9_16 rfl (argsL := [(.ref s2)]) (rest := []) (W := 0) (q := 19)) (n_sapp_16_16_3 l Z a0 hw EW.nil b21 s2 zc rv t23 k23 (.int (104 : Int32)) (.int (116 : Int32)) (.int (116 : Int32)) (.int (112 : Int32)) (.int (115 : Int32)) (.int (58 : Int32)) (.int (47 : Int32)) (.int (47 : Int32)) (.int (111 : Int32)) (.int (99 : Int32)) (.int (102 : Int32)) (.int (108 : Int32)) (.int (46 : Int32)) (.int (105 : Int32)) (.int (111 : Int32)) (.int (47 : Int32)) t2 sk (.int (49 : Int32)) (.int (46 : Int32)) (.int (49 : Int32)) h27 n0 ⟨E27, F27v, F27c, F27n, V27⟩ ((((SE.ext E21).keep K23).ext E25).keep K27) ((((SO.ext E21).keep K23 (ninS (by omega : @Ne Nat s2 b21) nin0)).ext E25).keep K27 (ninS (by omega : @Ne Nat s2 b21) (ninS (by omega : @Ne Nat s2 t23) nin0))) ((((SW.ext E21).keep K23 (ninS (by omega : @Ne Nat s2 b21) nin0)).ext E25).keep K27 (ninS (by omega : @Ne Nat s2 b21) (ninS (by omega : @Ne Nat s2 t23) nin0))) ((((SA.ext E21).keep K23 (ninS (by omega : @Ne Nat t2 b21) nin0)).ext E25).keep K27 (ninS (by omega : @Ne Nat t2 b21) (ninS (by omega : @Ne Nat t2 t23) nin0))) (by omega) (by omega) (by omega) (by omega) (by omega) (by omega) PX ((((PO.ext E21).keep K23 (allS (by omega) all0)).ext E25).keep K27 (allS (by omega) (allS (by omega) all0)))) (hw _ (List.mem_of_getElem? (i := 82) rfl)) (hw _ (List.mem_of_getElem? (i := 59) rfl)) (by decide) (by decide) (by decide) (by decide) (fun v h' q => ⟨[b21], q.2.1, sfS (Safe.exa Wt28.1.alike E27 (by decide) (by decide)) sf0⟩) ?_
  intro v29 h29 hz29 hQ29
  obtain ⟨rfl, K29, t29, k29, g29, E29, F29v, F29c, F29n, V29⟩ := hQ29
  refine g_wt (fun Wt30 => ?_)
  have z29 := K29.1; have y29 : @LT.lt Nat _ t29 h29.size := V29.lt
  have sT3 : Safe Z consts_1 _ _ t29 := (Safe.keep K29 (sfS sO2 sf0) Wt28.2.2.1.1 (Safe.new g29)); have sO3 : Safe Z consts_1 _ _ b21 := (Safe.exa Wt30.1.alike E29 (by decide) (by decide))
  refine g_ldcS (z := (16 : Int32)) (vs := [(.int (47 : Int32)), (.int (115 : Int32)), (.int (112 : Int32)), (.int (101 : Int32)), (.int (99 : Int32)), (.int (47 : Int32)), (.int (35 : Int32)), (.int (105 : Int32)), (.int (110 : Int32)), (.int (118 : Int32)), (.int (101 : Int32)), (.int (110 : Int32)), (.int (116 : Int32)), (.int (111 : Int32)), (.int (114 : Int32)), (.int (121 : Int32))]) (n := 64) B (hw _ (List.mem_of_getElem? (i := 150) rfl)) (fun d hd => hw d (own_wstr d hd)) (by decide) (by decide) (by decide) rfl d9_19 (by decide) (by decide) (by decide) (by decide) (q := 21) rfl ?_
  intro h31 vm31 b31 t31 k31 hZ31 E31 C31 A31 F31c F31v V31 N31
  refine g_wt (fun Wt32 => ?_)
  have X31 : Str Z h31 b31 t31 [(47 : Int32), (115 : Int32), (112 : Int32), (101 : Int32), (99 : Int32), (47 : Int32), (35 : Int32), (105 : Int32), (110 : Int32), (118 : Int32), (101 : Int32), (110 : Int32), (116 : Int32), (111 : Int32), (114 : Int32), (121 : Int32)] := Str.mk0 A31 F31v F31c V31 rfl rfl (by decide) (by decide)
  have z31 := E31.1; have y31 := X31.lt; have x31 := X31.lt'
  have sT4 : Safe Z consts_1 _ _ t29 := (C31.safe V29.lt sT3); have sO4 : Safe Z consts_1 _ _ b21 := (Safe.exa Wt32.1.alike (E29.ext E31) (by decide) (by decide))
  have nn2 := N31 b21 sO4
  refine g_metP (c_virt B (E29.ext E31) (hw _ (List.mem_of_getElem? (i := 78) rfl)) (hw _ (List.mem_of_getElem? (i := 79) rfl)) (hw _ (List.mem_of_getElem? (i := 81) rfl)) (hw _ (List.mem_of_getElem? (i := 80) rfl)) (nfs (z := (⟨"java/lang/StringBuilder", "append", "(Ljava/lang/String;)Ljava/lang/StringBuilder;"⟩ : MethodName)) (hw _ (List.mem_of_getElem? (i := 81) rfl))) (by decide) rfl (lenOf pd_28Ljava2flang2fString3b29Ljava2flang2fStringBuilder3b rfl) rfl (Nat.le_of_eq rfl) d9_21 rfl (argsL := [(.ref b31)]) (rest := []) (W := 0) (q := 24)) (n_sapp_34_19_16 l Z a0 hw EW.nil b21 b31 zc rv t29 k29 (.int (104 : Int32)) (.int (116 : Int32)) (.int (116 : Int32)) (.int (112 : Int32)) (.int (115 : Int32)) (.int (58 : Int32)) (.int (47 : Int32)) (.int (47 : Int32)) (.int (111 : Int32)) (.int (99 : Int32)) (.int (102 : Int32)) (.int (108 : Int32)) (.int (46 : Int32)) (.int (105 : Int32)) (.int (111 : Int32)) (.int (47 : Int32)) (.int (49 : Int32)) (.int (46 : Int32)) (.int (49 : Int32)) (.int (0 : Int32)) (.int (0 : Int32)) (.int (0 : Int32)) (.int (0 : Int32)) (.int (0 : Int32)) (.int (0 : Int32)) (.int (0 : Int32)) (.int (0 : Int32)) (.int (0 : Int32)) (.int (0 : Int32)) (.int (0 : Int32)) (.int (0 : Int32)) (.int (0 : Int32)) (.int (0 : Int32)) (.int (0 : Int32)) t31 k31 (.int (47 : Int32)) (.int (115 : Int32)) (.int (112 : Int32)) (.int (101 : Int32)) (.int (99 : Int32)) (.int (47 : Int32)) (.int (35 : Int32)) (.int (105 : Int32)) (.int (110 : Int32)) (.int (118 : Int32)) (.int (101 : Int32)) (.int (110 : Int32)) (.int (116 : Int32)) (.int (111 : Int32)) (.int (114 : Int32)) (.int (121 : Int32)) h31 n0 ⟨(E29.ext E31), (F29v.ext E31), (F29c.ext E31), (F29n.ext E31), (V29.ext E31)⟩ X31.exa F31c F31v V31 (by omega) (by omega) (by omega) (by omega) (by omega) (by omega) PX ((((((PO.ext E21).keep K23 (allS (by omega) all0)).ext E25).keep K27 (allS (by omega) (allS (by omega) all0))).keep K29 (allS (by omega) all0)).ext E31)) (hw _ (List.mem_of_getElem? (i := 82) rfl)) (hw _ (List.mem_of_getElem? (i := 59) rfl)) (by decide) (by decide) (by decide) (by decide) (fun v h' q => ⟨[b21], q.2.1, sfS (Safe.exa Wt32.1.alike (E29.ext E31) (by decide) (by decide)) sf0⟩) ?_
  intro v33 h33 hz33 hQ33
  obtain ⟨rfl, K33, t33, k33, g33, E33, F33v, F33c, F33n, V33⟩ := hQ33
  refine g_wt (fun Wt34 => ?_)
  have z33 := K33.1; have y33 : @LT.lt Nat _ t33 h33.size := V33.lt
  refine g_metP (c_virt B E33 (hw _ (List.mem_of_getElem? (i := 151) rfl)) (hw _ (List.mem_of_getElem? (i := 152) rfl)) (hw _ (List.mem_of_getElem? (i := 154) rfl)) (hw _ (List.mem_of_getElem? (i := 153) rfl)) (nfs (z := (⟨"java/lang/StringBuilder", "toString", "()Ljava/lang/String;"⟩ : MethodName)) (hw _ (List.mem_of_getElem? (i := 154) rfl))) (by decide) rfl (lenOf pd_2829Ljava2flang2fString3b rfl) rfl (Nat.le_of_eq rfl) d9_24 rfl (argsL := []) (rest := []) (W := 0) (q := 27)) (n_tost_35 l Z a0 hw EW.nil b21 zc rv t33 k33 (.int (104 : Int32)) (.int (116 : Int32)) (.int (116 : Int32)) (.int (112 : Int32)) (.int (115 : Int32)) (.int (58 : Int32)) (.int (47 : Int32)) (.int (47 : Int32)) (.int (111 : Int32)) (.int (99 : Int32)) (.int (102 : Int32)) (.int (108 : Int32)) (.int (46 : Int32)) (.int (105 : Int32)) (.int (111 : Int32)) (.int (47 : Int32)) (.int (49 : Int32)) (.int (46 : Int32)) (.int (49 : Int32)) (.int (47 : Int32)) (.int (115 : Int32)) (.int (112 : Int32)) (.int (101 : Int32)) (.int (99 : Int32)) (.int (47 : Int32)) (.int (35 : Int32)) (.int (105 : Int32)) (.int (110 : Int32)) (.int (118 : Int32)) (.int (101 : Int32)) (.int (110 : Int32)) (.int (116 : Int32)) (.int (111 : Int32)) (.int (114 : Int32)) (.int (121 : Int32)) (.int (0 : Int32)) (.int (0 : Int32)) (.int (0 : Int32)) (.int (0 : Int32)) (.int (0 : Int32)) (.int (0 : Int32)) (.int (0 : Int32)) (.int (0 : Int32)) (.int (0 : Int32)) (.int (0 : Int32)) (.int (0 : Int32)) (.int (0 : Int32)) (.int (0 : Int32)) (.int (0 : Int32)) (.int (0 : Int32)) (.int (0 : Int32)) (.int (0 : Int32)) (.int (0 : Int32)) (.int (0 : Int32)) (.int (0 : Int32)) (.int (0 : Int32)) (.int (0 : Int32)) (.int (0 : Int32)) (.int (0 : Int32)) (.int (0 : Int32)) (.int (0 : Int32)) (.int (0 : Int32)) (.int (0 : Int32)) (.int (0 : Int32)) (.int (0 : Int32)) (.int (0 : Int32)) (.int (0 : Int32)) (.int (0 : Int32)) (.int (0 : Int32)) (.int (0 : Int32)) h33 n0 ⟨E33, F33v, F33c, F33n, V33⟩ (by omega) PX (((((((PO.ext E21).keep K23 (allS (by omega) all0)).ext E25).keep K27 (allS (by omega) (allS (by omega) all0))).keep K29 (allS (by omega) all0)).ext E31).keep K33 (allS (by omega) all0))) (hw _ (List.mem_of_getElem? (i := 155) rfl)) (hw _ (List.mem_of_getElem? (i := 59) rfl)) (by decide) (by decide) (by decide) (by decide) (fun v h' q => ⟨[], by obtain ⟨x, t, k, -, K, -⟩ := q; exact K, all0⟩) ?_
  intro v35 h35 hz35 hQ35
  obtain ⟨x35, t35, k35, rfl, K35, g35, gg35, E35, F35v, F35c, V35⟩ := hQ35
  refine g_wt (fun Wt36 => ?_)
  have z35 := K35.1; have y35 : @LT.lt Nat _ t35 h35.size := V35.lt
  exact g_retA B rfl rfl d9_27 (by decide) (by decide) ⟨_, _, rfl, (((((((((Keep.refl h0 []).ext E21).trans K23 (allS (Or.inr (by omega)) all0)).ext E25).trans K27 (allS (Or.inr (by omega)) (allS (Or.inr (by omega)) all0))).trans K29 (allS (Or.inr (by omega)) all0)).ext E31).trans K33 (allS (Or.inr (by omega)) all0)).trans K35 all0), Str.mk0 E35 F35v F35c V35 rfl rfl (inv_r8 ⟨by decide, by decide⟩) (by decide)⟩
theorem d7_0 : decode prog_15_method_8_code 0 = .ok (.aconst_null, 1) := by decide +kernel
theorem d7_1 : decode prog_15_method_8_code 1 = .ok (.astore_n 1, 1) := by decide +kernel
theorem pd_28295bLcom2fexample2faffixity2faffixity2focfl2fOcflVersion3b : parseMethodDescriptor "()[Lcom/example/affixity/affixity/ocfl/OcflVersion;" = some ⟨[], some (.array (.object "com/example/affixity/affixity/ocfl/OcflVersion"))⟩ := by decide +kernel
theorem d7_2 : decode prog_15_method_8_code 2 = .ok (.invokestatic 54, 3) := by decide +kernel
theorem d7_5 : decode prog_15_method_8_code 5 = .ok (.astore_n 2, 1) := by decide +kernel
theorem d7_6 : decode prog_15_method_8_code 6 = .ok (.aload_n 2, 1) := by decide +kernel
theorem d7_7 : decode prog_15_method_8_code 7 = .ok (.arraylength, 1) := by decide +kernel
theorem d7_8 : decode prog_15_method_8_code 8 = .ok (.istore_n 3, 1) := by decide +kernel
theorem d7_9 : decode prog_15_method_8_code 9 = .ok (.iconst 0, 1) := by decide +kernel
theorem d7_10 : decode prog_15_method_8_code 10 = .ok (.istore 4, 2) := by decide +kernel
theorem d7_12 : decode prog_15_method_8_code 12 = .ok (.iload 4, 2) := by decide +kernel
theorem d7_14 : decode prog_15_method_8_code 14 = .ok (.iload_n 3, 1) := by decide +kernel
theorem d7_15 : decode prog_15_method_8_code 15 = .ok (.if_icmp .ge 30, 3) := by decide +kernel
theorem d7_18 : decode prog_15_method_8_code 18 = .ok (.aload_n 2, 1) := by decide +kernel
theorem d7_19 : decode prog_15_method_8_code 19 = .ok (.iload 4, 2) := by decide +kernel
theorem d7_21 : decode prog_15_method_8_code 21 = .ok (.aaload, 1) := by decide +kernel
theorem d7_22 : decode prog_15_method_8_code 22 = .ok (.astore 5, 2) := by decide +kernel
theorem d7_24 : decode prog_15_method_8_code 24 = .ok (.aload 5, 2) := by decide +kernel
theorem d7_26 : decode prog_15_method_8_code 26 = .ok (.invokevirtual 58, 3) := by decide +kernel
theorem d7_29 : decode prog_15_method_8_code 29 = .ok (.aload_n 0, 1) := by decide +kernel
theorem pd_28Ljava2flang2fObject3b29Z : parseMethodDescriptor "(Ljava/lang/Object;)Z" = some ⟨[(.object "java/lang/Object")], some .boolean⟩ := by decide +kernel
theorem d7_30 : decode prog_15_method_8_code 30 = .ok (.invokevirtual 61, 3) := by decide +kernel
theorem d7_33 : decode prog_15_method_8_code 33 = .ok (.ifCond .eq 6, 3) := by decide +kernel
theorem d7_36 : decode prog_15_method_8_code 36 = .ok (.aload 5, 2) := by decide +kernel
theorem d7_38 : decode prog_15_method_8_code 38 = .ok (.astore_n 1, 1) := by decide +kernel
theorem d7_39 : decode prog_15_method_8_code 39 = .ok (.iinc 4 1, 3) := by decide +kernel
theorem d7_42 : decode prog_15_method_8_code 42 = .ok (.goto (-30), 3) := by decide +kernel
theorem d7_45 : decode prog_15_method_8_code 45 = .ok (.aload_n 1, 1) := by decide +kernel
theorem d7_46 : decode prog_15_method_8_code 46 = .ok (.areturn, 1) := by decide +kernel
set_option maxRecDepth 65536 in
set_option maxHeartbeats 40000000 in
theorem w_of (l : Launch) (Z : State) (a0 : Array Value) (hw : ∀ d ∈ tables_1, d.before a0 Z = true) (hEL : EW Z a0 consts_1) (a1 : Addr) (va : Addr) (kv : ClassId) (e0 e1 s0 s1 t0 t1 : Addr) (zc : Int32) (rv : Value) (t : Addr) (cs : List Int32) (h0 : Heap) (n0 : Nat) (PS : Str Z h0 a1 t cs) (PE : Enums Z va kv e0 e1 s0 s1 t0 t1) (hn : @LE.le Nat _ n0 h0.size) (PX : Sts Z zc rv) (PO : Old Z n0 h0) :
    Met true Z consts_1 l (⟨"com/example/affixity/affixity/ocfl/OcflVersion", "ofInventoryType", "(Ljava/lang/String;)Lcom/example/affixity/affixity/ocfl/OcflVersion;"⟩ : MethodName) prog_15_method_8_code 6 (some (.object "com/example/affixity/affixity/ocfl/OcflVersion")) ({ frames := 7, cells := 21, slots := 600, locals := 103 } : Room) #[(.ref a1)] h0 [] n0 (fun v h => v = some (ofV e0 e1 cs) ∧ Keep h0 h []) := by
  refine Met.of (a0 := a0) (Ls := #[.val (.ref a1), .unset, .unset, .unset, .unset, .unset]) (fun z => (nomatch z)) (plainFor_of_name pn_com_example_affixity_affixity_ocfl_OcflVersion) hEL (fun m => by first | (simp [entryFrame, mkF, argsToLocals, Value.category]; done) | rfl) ?_
  intro p e s m below meth c B hSf
  refine g_wt (fun Wt0 => ?_)
  obtain ⟨SC, hzc, SF, rf⟩ := id PX
  obtain ⟨⟨S0, G0, F0, X0⟩, ⟨S1, G1, F1, X1⟩, SV, EV, AV⟩ := id PE
  have ys := PS.lt; have yt := PS.lt'
  refine gs (mkF m 1 _ [.null]) (fun T A t k => XS.aconstNull A B.x rfl (B.d d7_0) k) ?_
  refine gs (mkF m 2 #[.val (.ref a1), .val .null, .unset, .unset, .unset, .unset] []) (fun T A t k => XS.astoreN A B.x rfl (B.d d7_1) rfl rfl (l' := #[.val (.ref a1), .val .null, .unset, .unset, .unset, .unset]) rfl k) ?_
  refine g_metP (c_static B (hw _ (List.mem_of_getElem? (i := 35) rfl)) (hw _ (List.mem_of_getElem? (i := 36) rfl)) (hw _ (List.mem_of_getElem? (i := 33) rfl)) (hw _ (List.mem_of_getElem? (i := 37) rfl)) (by decide) rfl (lenOf pd_28295bLcom2fexample2faffixity2faffixity2focfl2fOcflVersion3b rfl) rfl (Nat.le_of_eq rfl) d7_2 rfl (argsL := []) (rest := []) (W := 0) (q := 5)) (n_vals l Z a0 hw EW.nil  va kv e0 e1 s0 s1 t0 t1 zc rv h0 n0 PE (by omega) PX PO) (hw _ (List.mem_of_getElem? (i := 37) rfl)) (hw _ (List.mem_of_getElem? (i := 33) rfl)) (by decide) (by decide) (by decide) (by decide) (fun v h' q => ⟨[], by obtain ⟨x, -, K, -⟩ := q; exact K, all0⟩) ?_
  intro v21 h21 hz21 hQ21
  obtain ⟨x21, rfl, K21, g21, V21⟩ := hQ21
  refine g_wt (fun Wt22 => ?_)
  have z21 := K21.1; have y21 : @LT.lt Nat _ x21 h21.size := V21.lt
  refine gs (mkF m 6 #[.val (.ref a1), .val .null, .val (.ref x21), .unset, .unset, .unset] []) (fun T A t k => XS.astoreN A B.x rfl (B.d d7_5) rfl rfl (l' := #[.val (.ref a1), .val .null, .val (.ref x21), .unset, .unset, .unset]) rfl k) ?_
  refine gs (mkF m 7 _ [(.ref x21)]) (fun T A t k => XS.aloadN A B.x rfl (B.d d7_6) rfl rfl k) ?_
  refine g_len B V21 d7_7 (q := 8) rfl ?_
  refine gs (mkF m 9 #[.val (.ref a1), .val .null, .val (.ref x21), .val (.int (2 : Int32)), .unset, .unset] []) (fun T A t k => XS.istoreN A B.x rfl (B.d d7_8) rfl (l' := #[.val (.ref a1), .val .null, .val (.ref x21), .val (.int (2 : Int32)), .unset, .unset]) rfl k) ?_
  refine gs (mkF m 10 _ [(.int (0 : Int32))]) (fun T A t k => XS.iconst A B.x rfl (B.d d7_9) k) ?_
  refine gs (mkF m 12 #[.val (.ref a1), .val .null, .val (.ref x21), .val (.int (2 : Int32)), .val (.int (0 : Int32)), .unset] []) (fun T A t k => XS.istore A B.x rfl (B.d d7_10) rfl (l' := #[.val (.ref a1), .val .null, .val (.ref x21), .val (.int (2 : Int32)), .val (.int (0 : Int32)), .unset]) rfl k) ?_
  refine gs (mkF m 14 _ [(.int (0 : Int32))]) (fun T A t k => XS.iload A B.x rfl (B.d d7_12) rfl k) ?_
  refine gs (mkF m 15 _ [(.int (2 : Int32)), (.int (0 : Int32))]) (fun T A t k => XS.iloadN A B.x rfl (B.d d7_14) rfl k) ?_
  refine gs (mkF m 18 _ []) (fun T A t k => XS.icmpNo A B.x rfl (B.d d7_15) rfl (tlt (by decide : (0 : Int32) < (2 : Int32))).2.1 k) ?_
  refine gs (mkF m 19 _ [(.ref x21)]) (fun T A t k => XS.aloadN A B.x rfl (B.d d7_18) rfl rfl k) ?_
  refine gs (mkF m 21 _ [(.int (0 : Int32)), (.ref x21)]) (fun T A t k => XS.iload A B.x rfl (B.d d7_19) rfl k) ?_
  refine g_ldR B V21 rfl ⟨by decide, by decide⟩ (v := (.ref e0)) rfl d7_21 (q := 22) rfl ?_
  refine gs (mkF m 24 #[.val (.ref a1), .val .null, .val (.ref x21), .val (.int (2 : Int32)), .val (.int (0 : Int32)), .val (.ref e0)] []) (fun T A t k => XS.astore A B.x rfl (B.d d7_22) rfl rfl (l' := #[.val (.ref a1), .val .null, .val (.ref x21), .val (.int (2 : Int32)), .val (.int (0 : Int32)), .val (.ref e0)]) rfl k) ?_
  refine gs (mkF m 26 _ [(.ref e0)]) (fun T A t k => XS.aload A B.x rfl (B.d d7_24) rfl rfl k) ?_
  refine g_met hEL (c_virt B (G0.ext (PO.keep K21 all0).2) (hw _ (List.mem_of_getElem? (i := 52) rfl)) (hw _ (List.mem_of_getElem? (i := 53) rfl)) (hw _ (List.mem_of_getElem? (i := 55) rfl)) (hw _ (List.mem_of_getElem? (i := 54) rfl)) (nfs (z := (⟨"com/example/affixity/affixity/ocfl/OcflVersion", "inventoryType", "()Ljava/lang/String;"⟩ : MethodName)) (hw _ (List.mem_of_getElem? (i := 55) rfl))) (by decide) rfl (lenOf pd_2829Ljava2flang2fString3b rfl) rfl (Nat.le_of_eq rfl) d7_26 rfl (argsL := []) (rest := []) (W := 0) (q := 29)) (w_inv_48 l Z a0 hw hEL e0 zc rv s0 t0 h21 n0 (G0.ext (PO.keep K21 all0).2) (F0.ext (PO.keep K21 all0).2) (X0.ext (PO.keep K21 all0).2) (by omega) PX (PO.keep K21 all0)) (hw _ (List.mem_of_getElem? (i := 56) rfl)) (hw _ (List.mem_of_getElem? (i := 33) rfl)) (by decide) (by decide) (by decide) (by decide) (fun _ q => nomatch q) ?_
  intro v23 h23 vm23 hZ23 C23 hQ23
  obtain ⟨x23, t23, rfl, K23, X23⟩ := hQ23
  refine g_wt (fun Wt24 => ?_)
  have z23 := K23.1; have y23 := X23.lt; have w23 := X23.lt'
  refine gs (mkF m 30 _ [(.ref a1), (.ref x23)]) (fun T A t k => XS.aloadN A B.x rfl (B.d d7_29) rfl rfl k) ?_
  refine g_pay (Q' := fun v h' L => v = some (.int (if (inv 48) = cs then 1 else 0 : Int32)) ∧ L = [] ∧ h23 = h') (k := 0) (n := 0) (c_virt B X23.exa (hw _ (List.mem_of_getElem? (i := 190) rfl)) (hw _ (List.mem_of_getElem? (i := 191) rfl)) (hw _ (List.mem_of_getElem? (i := 193) rfl)) (hw _ (List.mem_of_getElem? (i := 192) rfl)) (nfs (z := (⟨"java/lang/String", "equals", "(Ljava/lang/Object;)Z"⟩ : MethodName)) (hw _ (List.mem_of_getElem? (i := 193) rfl))) (by decide) rfl (lenOf pd_28Ljava2flang2fObject3b29Z rfl) rfl (Nat.le_of_eq rfl) d7_30 rfl (argsL := [(.ref a1)]) (rest := []) (W := 0) (q := 33)) (fun hZ => own_eq hZ (fun d hd => hw d (own_weq d hd)) (hw _ (List.mem_of_getElem? (i := 3) rfl)) X23 ((PS.keep K21 ⟨nin0, nin0⟩).keep K23 ⟨nin0, nin0⟩) (SC.ext ((PO.keep K21 all0).keep K23 all0).2) hzc (by decide) (by decide)) (by decide) (by decide) (fun v h' L q => ⟨by rw [q.2.1]; exact Fr.nil _, [], by rw [← q.2.2]; exact Keep.refl _ _, all0⟩) ?_
  rintro v25 h25 L25 ⟨rfl, -, rfl⟩
  by_cases hE0 : inv 48 = cs
  · rw [if_pos hE0]
    refine gs (mkF m 36 _ []) (fun T A t k => XS.ifNo A B.x rfl (B.d d7_33) rfl ((if0 _ _).trans (feq (by decide : ¬ ((1 : Int32) = (0 : Int32)))).1) k) ?_
    refine gs (mkF m 38 _ [(.ref e0)]) (fun T A t k => XS.aload A B.x rfl (B.d d7_36) rfl rfl k) ?_
    refine gs (mkF m 39 #[.val (.ref a1), .val (.ref e0), .val (.ref x21), .val (.int (2 : Int32)), .val (.int (0 : Int32)), .val (.ref e0)] []) (fun T A t k => XS.astoreN A B.x rfl (B.d d7_38) rfl rfl (l' := #[.val (.ref a1), .val (.ref e0), .val (.ref x21), .val (.int (2 : Int32)), .val (.int (0 : Int32)), .val (.ref e0)]) rfl k) ?_
    refine gs (mkF m 42 #[.val (.ref a1), .val (.ref e0), .val (.ref x21), .val (.int (2 : Int32)), .val (.int (1 : Int32)), .val (.ref e0)] []) (fun T A t k => XS.iinc A B.x rfl (B.d d7_39) rfl (l' := #[.val (.ref a1), .val (.ref e0), .val (.ref x21), .val (.int (2 : Int32)), .val (.int (1 : Int32)), .val (.ref e0)]) rfl k) ?_
    refine gs (mkF m 12 _ []) (fun T A t k => XS.goto A B.x rfl (pc0 := 42) (pc' := 12) rfl (B.d d7_42) (by decide) (by decide) k) ?_
    refine gs (mkF m 14 _ [(.int (1 : Int32))]) (fun T A t k => XS.iload A B.x rfl (B.d d7_12) rfl k) ?_
    refine gs (mkF m 15 _ [(.int (2 : Int32)), (.int (1 : Int32))]) (fun T A t k => XS.iloadN A B.x rfl (B.d d7_14) rfl k) ?_
    refine gs (mkF m 18 _ []) (fun T A t k => XS.icmpNo A B.x rfl (B.d d7_15) rfl (tlt (by decide : (1 : Int32) < (2 : Int32))).2.1 k) ?_
    refine gs (mkF m 19 _ [(.ref x21)]) (fun T A t k => XS.aloadN A B.x rfl (B.d d7_18) rfl rfl k) ?_
    refine gs (mkF m 21 _ [(.int (1 : Int32)), (.ref x21)]) (fun T A t k => XS.iload A B.x rfl (B.d d7_19) rfl k) ?_
    refine g_ldR B (V21.keep K23 nin0) rfl ⟨by decide, by decide⟩ (v := (.ref e1)) rfl d7_21 (q := 22) rfl ?_
    refine gs (mkF m 24 #[.val (.ref a1), .val (.ref e0), .val (.ref x21), .val (.int (2 : Int32)), .val (.int (1 : Int32)), .val (.ref e1)] []) (fun T A t k => XS.astore A B.x rfl (B.d d7_22) rfl rfl (l' := #[.val (.ref a1), .val (.ref e0), .val (.ref x21), .val (.int (2 : Int32)), .val (.int (1 : Int32)), .val (.ref e1)]) rfl k) ?_
    refine gs (mkF m 26 _ [(.ref e1)]) (fun T A t k => XS.aload A B.x rfl (B.d d7_24) rfl rfl k) ?_
    refine g_met hEL (c_virt B (G1.ext ((PO.keep K21 all0).keep K23 all0).2) (hw _ (List.mem_of_getElem? (i := 52) rfl)) (hw _ (List.mem_of_getElem? (i := 53) rfl)) (hw _ (List.mem_of_getElem? (i := 55) rfl)) (hw _ (List.mem_of_getElem? (i := 54) rfl)) (nfs (z := (⟨"com/example/affixity/affixity/ocfl/OcflVersion", "inventoryType", "()Ljava/lang/String;"⟩ : MethodName)) (hw _ (List.mem_of_getElem? (i := 55) rfl))) (by decide) rfl (lenOf pd_2829Ljava2flang2fString3b rfl) rfl (Nat.le_of_eq rfl) d7_26 rfl (argsL := []) (rest := []) (W := 0) (q := 29)) (w_inv_49 l Z a0 hw hEL e1 zc rv s1 t1 h23 n0 (G1.ext ((PO.keep K21 all0).keep K23 all0).2) (F1.ext ((PO.keep K21 all0).keep K23 all0).2) (X1.ext ((PO.keep K21 all0).keep K23 all0).2) (by omega) PX ((PO.keep K21 all0).keep K23 all0)) (hw _ (List.mem_of_getElem? (i := 56) rfl)) (hw _ (List.mem_of_getElem? (i := 33) rfl)) (by decide) (by decide) (by decide) (by decide) (fun _ q => nomatch q) ?_
    intro v26 h26 vm26 hZ26 C26 hQ26
    obtain ⟨x26, t26, rfl, K26, X26⟩ := hQ26
    refine g_wt (fun Wt27 => ?_)
    have z26 := K26.1; have y26 := X26.lt; have w26 := X26.lt'
    refine gs (mkF m 30 _ [(.ref a1), (.ref x26)]) (fun T A t k => XS.aloadN A B.x rfl (B.d d7_29) rfl rfl k) ?_
    refine g_pay (Q' := fun v h' L => v = some (.int (if (inv 49) = cs then 1 else 0 : Int32)) ∧ L = [] ∧ h26 = h') (k := 0) (n := 0) (c_virt B X26.exa (hw _ (List.mem_of_getElem? (i := 190) rfl)) (hw _ (List.mem_of_getElem? (i := 191) rfl)) (hw _ (List.mem_of_getElem? (i := 193) rfl)) (hw _ (List.mem_of_getElem? (i := 192) rfl)) (nfs (z := (⟨"java/lang/String", "equals", "(Ljava/lang/Object;)Z"⟩ : MethodName)) (hw _ (List.mem_of_getElem? (i := 193) rfl))) (by decide) rfl (lenOf pd_28Ljava2flang2fObject3b29Z rfl) rfl (Nat.le_of_eq rfl) d7_30 rfl (argsL := [(.ref a1)]) (rest := []) (W := 0) (q := 33)) (fun hZ => own_eq hZ (fun d hd => hw d (own_weq d hd)) (hw _ (List.mem_of_getElem? (i := 3) rfl)) X26 (((PS.keep K21 ⟨nin0, nin0⟩).keep K23 ⟨nin0, nin0⟩).keep K26 ⟨nin0, nin0⟩) (SC.ext (((PO.keep K21 all0).keep K23 all0).keep K26 all0).2) hzc (by decide) (by decide)) (by decide) (by decide) (fun v h' L q => ⟨by rw [q.2.1]; exact Fr.nil _, [], by rw [← q.2.2]; exact Keep.refl _ _, all0⟩) ?_
    rintro v28 h28 L28 ⟨rfl, -, rfl⟩
    by_cases hE1 : inv 49 = cs
    · rw [if_pos hE1]
      refine gs (mkF m 36 _ []) (fun T A t k => XS.ifNo A B.x rfl (B.d d7_33) rfl ((if0 _ _).trans (feq (by decide : ¬ ((1 : Int32) = (0 : Int32)))).1) k) ?_
      refine gs (mkF m 38 _ [(.ref e1)]) (fun T A t k => XS.aload A B.x rfl (B.d d7_36) rfl rfl k) ?_
      refine gs (mkF m 39 #[.val (.ref a1), .val (.ref e1), .val (.ref x21), .val (.int (2 : Int32)), .val (.int (1 : Int32)), .val (.ref e1)] []) (fun T A t k => XS.astoreN A B.x rfl (B.d d7_38) rfl rfl (l' := #[.val (.ref a1), .val (.ref e1), .val (.ref x21), .val (.int (2 : Int32)), .val (.int (1 : Int32)), .val (.ref e1)]) rfl k) ?_
      refine gs (mkF m 42 #[.val (.ref a1), .val (.ref e1), .val (.ref x21), .val (.int (2 : Int32)), .val (.int (2 : Int32)), .val (.ref e1)] []) (fun T A t k => XS.iinc A B.x rfl (B.d d7_39) rfl (l' := #[.val (.ref a1), .val (.ref e1), .val (.ref x21), .val (.int (2 : Int32)), .val (.int (2 : Int32)), .val (.ref e1)]) rfl k) ?_
      refine gs (mkF m 12 _ []) (fun T A t k => XS.goto A B.x rfl (pc0 := 42) (pc' := 12) rfl (B.d d7_42) (by decide) (by decide) k) ?_
      refine gs (mkF m 14 _ [(.int (2 : Int32))]) (fun T A t k => XS.iload A B.x rfl (B.d d7_12) rfl k) ?_
      refine gs (mkF m 15 _ [(.int (2 : Int32)), (.int (2 : Int32))]) (fun T A t k => XS.iloadN A B.x rfl (B.d d7_14) rfl k) ?_
      refine gs (mkF m 45 _ []) (fun T A t k => XS.icmpYes A B.x rfl (pc0 := 15) (pc' := 45) rfl (B.d d7_15) rfl (flt (by decide : ¬ ((2 : Int32) < (2 : Int32)))).2.1 (by decide) (by decide) k) ?_
      refine gs (mkF m 46 _ [(.ref e1)]) (fun T A t k => XS.aloadN A B.x rfl (B.d d7_45) rfl rfl k) ?_
      exact g_retA B rfl rfl d7_46 (by decide) (by decide) ⟨by simp [ofV, hE0, hE1], ((((Keep.refl h0 []).trans K21 all0).trans K23 all0).trans K26 all0)⟩
    · rw [if_neg hE1]
      refine gs (mkF m 39 _ []) (fun T A t k => XS.ifYes A B.x rfl (pc0 := 33) (pc' := 39) rfl (B.d d7_33) rfl ((if0 _ _).trans (teq (by decide : (0 : Int32) = (0 : Int32))).1) (by decide) (by decide) k) ?_
      refine gs (mkF m 42 #[.val (.ref a1), .val (.ref e0), .val (.ref x21), .val (.int (2 : Int32)), .val (.int (2 : Int32)), .val (.ref e1)] []) (fun T A t k => XS.iinc A B.x rfl (B.d d7_39) rfl (l' := #[.val (.ref a1), .val (.ref e0), .val (.ref x21), .val (.int (2 : Int32)), .val (.int (2 : Int32)), .val (.ref e1)]) rfl k) ?_
      refine gs (mkF m 12 _ []) (fun T A t k => XS.goto A B.x rfl (pc0 := 42) (pc' := 12) rfl (B.d d7_42) (by decide) (by decide) k) ?_
      refine gs (mkF m 14 _ [(.int (2 : Int32))]) (fun T A t k => XS.iload A B.x rfl (B.d d7_12) rfl k) ?_
      refine gs (mkF m 15 _ [(.int (2 : Int32)), (.int (2 : Int32))]) (fun T A t k => XS.iloadN A B.x rfl (B.d d7_14) rfl k) ?_
      refine gs (mkF m 45 _ []) (fun T A t k => XS.icmpYes A B.x rfl (pc0 := 15) (pc' := 45) rfl (B.d d7_15) rfl (flt (by decide : ¬ ((2 : Int32) < (2 : Int32)))).2.1 (by decide) (by decide) k) ?_
      refine gs (mkF m 46 _ [(.ref e0)]) (fun T A t k => XS.aloadN A B.x rfl (B.d d7_45) rfl rfl k) ?_
      exact g_retA B rfl rfl d7_46 (by decide) (by decide) ⟨by simp [ofV, hE0, hE1], ((((Keep.refl h0 []).trans K21 all0).trans K23 all0).trans K26 all0)⟩
  · rw [if_neg hE0]
    refine gs (mkF m 39 _ []) (fun T A t k => XS.ifYes A B.x rfl (pc0 := 33) (pc' := 39) rfl (B.d d7_33) rfl ((if0 _ _).trans (teq (by decide : (0 : Int32) = (0 : Int32))).1) (by decide) (by decide) k) ?_
    refine gs (mkF m 42 #[.val (.ref a1), .val .null, .val (.ref x21), .val (.int (2 : Int32)), .val (.int (1 : Int32)), .val (.ref e0)] []) (fun T A t k => XS.iinc A B.x rfl (B.d d7_39) rfl (l' := #[.val (.ref a1), .val .null, .val (.ref x21), .val (.int (2 : Int32)), .val (.int (1 : Int32)), .val (.ref e0)]) rfl k) ?_
    refine gs (mkF m 12 _ []) (fun T A t k => XS.goto A B.x rfl (pc0 := 42) (pc' := 12) rfl (B.d d7_42) (by decide) (by decide) k) ?_
    refine gs (mkF m 14 _ [(.int (1 : Int32))]) (fun T A t k => XS.iload A B.x rfl (B.d d7_12) rfl k) ?_
    refine gs (mkF m 15 _ [(.int (2 : Int32)), (.int (1 : Int32))]) (fun T A t k => XS.iloadN A B.x rfl (B.d d7_14) rfl k) ?_
    refine gs (mkF m 18 _ []) (fun T A t k => XS.icmpNo A B.x rfl (B.d d7_15) rfl (tlt (by decide : (1 : Int32) < (2 : Int32))).2.1 k) ?_
    refine gs (mkF m 19 _ [(.ref x21)]) (fun T A t k => XS.aloadN A B.x rfl (B.d d7_18) rfl rfl k) ?_
    refine gs (mkF m 21 _ [(.int (1 : Int32)), (.ref x21)]) (fun T A t k => XS.iload A B.x rfl (B.d d7_19) rfl k) ?_
    refine g_ldR B (V21.keep K23 nin0) rfl ⟨by decide, by decide⟩ (v := (.ref e1)) rfl d7_21 (q := 22) rfl ?_
    refine gs (mkF m 24 #[.val (.ref a1), .val .null, .val (.ref x21), .val (.int (2 : Int32)), .val (.int (1 : Int32)), .val (.ref e1)] []) (fun T A t k => XS.astore A B.x rfl (B.d d7_22) rfl rfl (l' := #[.val (.ref a1), .val .null, .val (.ref x21), .val (.int (2 : Int32)), .val (.int (1 : Int32)), .val (.ref e1)]) rfl k) ?_
    refine gs (mkF m 26 _ [(.ref e1)]) (fun T A t k => XS.aload A B.x rfl (B.d d7_24) rfl rfl k) ?_
    refine g_met hEL (c_virt B (G1.ext ((PO.keep K21 all0).keep K23 all0).2) (hw _ (List.mem_of_getElem? (i := 52) rfl)) (hw _ (List.mem_of_getElem? (i := 53) rfl)) (hw _ (List.mem_of_getElem? (i := 55) rfl)) (hw _ (List.mem_of_getElem? (i := 54) rfl)) (nfs (z := (⟨"com/example/affixity/affixity/ocfl/OcflVersion", "inventoryType", "()Ljava/lang/String;"⟩ : MethodName)) (hw _ (List.mem_of_getElem? (i := 55) rfl))) (by decide) rfl (lenOf pd_2829Ljava2flang2fString3b rfl) rfl (Nat.le_of_eq rfl) d7_26 rfl (argsL := []) (rest := []) (W := 0) (q := 29)) (w_inv_49 l Z a0 hw hEL e1 zc rv s1 t1 h23 n0 (G1.ext ((PO.keep K21 all0).keep K23 all0).2) (F1.ext ((PO.keep K21 all0).keep K23 all0).2) (X1.ext ((PO.keep K21 all0).keep K23 all0).2) (by omega) PX ((PO.keep K21 all0).keep K23 all0)) (hw _ (List.mem_of_getElem? (i := 56) rfl)) (hw _ (List.mem_of_getElem? (i := 33) rfl)) (by decide) (by decide) (by decide) (by decide) (fun _ q => nomatch q) ?_
    intro v29 h29 vm29 hZ29 C29 hQ29
    obtain ⟨x29, t29, rfl, K29, X29⟩ := hQ29
    refine g_wt (fun Wt30 => ?_)
    have z29 := K29.1; have y29 := X29.lt; have w29 := X29.lt'
    refine gs (mkF m 30 _ [(.ref a1), (.ref x29)]) (fun T A t k => XS.aloadN A B.x rfl (B.d d7_29) rfl rfl k) ?_
    refine g_pay (Q' := fun v h' L => v = some (.int (if (inv 49) = cs then 1 else 0 : Int32)) ∧ L = [] ∧ h29 = h') (k := 0) (n := 0) (c_virt B X29.exa (hw _ (List.mem_of_getElem? (i := 190) rfl)) (hw _ (List.mem_of_getElem? (i := 191) rfl)) (hw _ (List.mem_of_getElem? (i := 193) rfl)) (hw _ (List.mem_of_getElem? (i := 192) rfl)) (nfs (z := (⟨"java/lang/String", "equals", "(Ljava/lang/Object;)Z"⟩ : MethodName)) (hw _ (List.mem_of_getElem? (i := 193) rfl))) (by decide) rfl (lenOf pd_28Ljava2flang2fObject3b29Z rfl) rfl (Nat.le_of_eq rfl) d7_30 rfl (argsL := [(.ref a1)]) (rest := []) (W := 0) (q := 33)) (fun hZ => own_eq hZ (fun d hd => hw d (own_weq d hd)) (hw _ (List.mem_of_getElem? (i := 3) rfl)) X29 (((PS.keep K21 ⟨nin0, nin0⟩).keep K23 ⟨nin0, nin0⟩).keep K29 ⟨nin0, nin0⟩) (SC.ext (((PO.keep K21 all0).keep K23 all0).keep K29 all0).2) hzc (by decide) (by decide)) (by decide) (by decide) (fun v h' L q => ⟨by rw [q.2.1]; exact Fr.nil _, [], by rw [← q.2.2]; exact Keep.refl _ _, all0⟩) ?_
    rintro v31 h31 L31 ⟨rfl, -, rfl⟩
    by_cases hE1 : inv 49 = cs
    · rw [if_pos hE1]
      refine gs (mkF m 36 _ []) (fun T A t k => XS.ifNo A B.x rfl (B.d d7_33) rfl ((if0 _ _).trans (feq (by decide : ¬ ((1 : Int32) = (0 : Int32)))).1) k) ?_
      refine gs (mkF m 38 _ [(.ref e1)]) (fun T A t k => XS.aload A B.x rfl (B.d d7_36) rfl rfl k) ?_
      refine gs (mkF m 39 #[.val (.ref a1), .val (.ref e1), .val (.ref x21), .val (.int (2 : Int32)), .val (.int (1 : Int32)), .val (.ref e1)] []) (fun T A t k => XS.astoreN A B.x rfl (B.d d7_38) rfl rfl (l' := #[.val (.ref a1), .val (.ref e1), .val (.ref x21), .val (.int (2 : Int32)), .val (.int (1 : Int32)), .val (.ref e1)]) rfl k) ?_
      refine gs (mkF m 42 #[.val (.ref a1), .val (.ref e1), .val (.ref x21), .val (.int (2 : Int32)), .val (.int (2 : Int32)), .val (.ref e1)] []) (fun T A t k => XS.iinc A B.x rfl (B.d d7_39) rfl (l' := #[.val (.ref a1), .val (.ref e1), .val (.ref x21), .val (.int (2 : Int32)), .val (.int (2 : Int32)), .val (.ref e1)]) rfl k) ?_
      refine gs (mkF m 12 _ []) (fun T A t k => XS.goto A B.x rfl (pc0 := 42) (pc' := 12) rfl (B.d d7_42) (by decide) (by decide) k) ?_
      refine gs (mkF m 14 _ [(.int (2 : Int32))]) (fun T A t k => XS.iload A B.x rfl (B.d d7_12) rfl k) ?_
      refine gs (mkF m 15 _ [(.int (2 : Int32)), (.int (2 : Int32))]) (fun T A t k => XS.iloadN A B.x rfl (B.d d7_14) rfl k) ?_
      refine gs (mkF m 45 _ []) (fun T A t k => XS.icmpYes A B.x rfl (pc0 := 15) (pc' := 45) rfl (B.d d7_15) rfl (flt (by decide : ¬ ((2 : Int32) < (2 : Int32)))).2.1 (by decide) (by decide) k) ?_
      refine gs (mkF m 46 _ [(.ref e1)]) (fun T A t k => XS.aloadN A B.x rfl (B.d d7_45) rfl rfl k) ?_
      exact g_retA B rfl rfl d7_46 (by decide) (by decide) ⟨by simp [ofV, hE0, hE1], ((((Keep.refl h0 []).trans K21 all0).trans K23 all0).trans K29 all0)⟩
    · rw [if_neg hE1]
      refine gs (mkF m 39 _ []) (fun T A t k => XS.ifYes A B.x rfl (pc0 := 33) (pc' := 39) rfl (B.d d7_33) rfl ((if0 _ _).trans (teq (by decide : (0 : Int32) = (0 : Int32))).1) (by decide) (by decide) k) ?_
      refine gs (mkF m 42 #[.val (.ref a1), .val .null, .val (.ref x21), .val (.int (2 : Int32)), .val (.int (2 : Int32)), .val (.ref e1)] []) (fun T A t k => XS.iinc A B.x rfl (B.d d7_39) rfl (l' := #[.val (.ref a1), .val .null, .val (.ref x21), .val (.int (2 : Int32)), .val (.int (2 : Int32)), .val (.ref e1)]) rfl k) ?_
      refine gs (mkF m 12 _ []) (fun T A t k => XS.goto A B.x rfl (pc0 := 42) (pc' := 12) rfl (B.d d7_42) (by decide) (by decide) k) ?_
      refine gs (mkF m 14 _ [(.int (2 : Int32))]) (fun T A t k => XS.iload A B.x rfl (B.d d7_12) rfl k) ?_
      refine gs (mkF m 15 _ [(.int (2 : Int32)), (.int (2 : Int32))]) (fun T A t k => XS.iloadN A B.x rfl (B.d d7_14) rfl k) ?_
      refine gs (mkF m 45 _ []) (fun T A t k => XS.icmpYes A B.x rfl (pc0 := 15) (pc' := 45) rfl (B.d d7_15) rfl (flt (by decide : ¬ ((2 : Int32) < (2 : Int32)))).2.1 (by decide) (by decide) k) ?_
      refine gs (mkF m 46 _ [.null]) (fun T A t k => XS.aloadN A B.x rfl (B.d d7_45) rfl rfl k) ?_
      exact g_retA B rfl rfl d7_46 (by decide) (by decide) ⟨by simp [ofV, hE0, hE1], ((((Keep.refl h0 []).trans K21 all0).trans K23 all0).trans K29 all0)⟩
set_option maxRecDepth 65536 in
set_option maxHeartbeats 40000000 in
theorem w_of0 (l : Launch) (Z : State) (a0 : Array Value) (hw : ∀ d ∈ tables_1, d.before a0 Z = true) (hEL : EW Z a0 consts_1)  (va : Addr) (kv : ClassId) (e0 e1 s0 s1 t0 t1 : Addr) (zc : Int32) (rv : Value) (h0 : Heap) (n0 : Nat) (PE : Enums Z va kv e0 e1 s0 s1 t0 t1) (hn : @LE.le Nat _ n0 h0.size) (PX : Sts Z zc rv) (PO : Old Z n0 h0) :
    Met true Z consts_1 l (⟨"com/example/affixity/affixity/ocfl/OcflVersion", "ofInventoryType", "(Ljava/lang/String;)Lcom/example/affixity/affixity/ocfl/OcflVersion;"⟩ : MethodName) prog_15_method_8_code 6 (some (.object "com/example/affixity/affixity/ocfl/OcflVersion")) ({ frames := 7, cells := 21, slots := 600, locals := 103 } : Room) #[.null] h0 [] n0 (fun v h => v = some .null ∧ Keep h0 h []) := by
  refine Met.of (a0 := a0) (Ls := #[.val .null, .unset, .unset, .unset, .unset, .unset]) (fun z => (nomatch z)) (plainFor_of_name pn_com_example_affixity_affixity_ocfl_OcflVersion) hEL (fun m => by first | (simp [entryFrame, mkF, argsToLocals, Value.category]; done) | rfl) ?_
  intro p e s m below meth c B hSf
  refine g_wt (fun Wt0 => ?_)
  obtain ⟨SC, hzc, SF, rf⟩ := id PX
  obtain ⟨⟨S0, G0, F0, X0⟩, ⟨S1, G1, F1, X1⟩, SV, EV, AV⟩ := id PE
  refine gs (mkF m 1 _ [.null]) (fun T A t k => XS.aconstNull A B.x rfl (B.d d7_0) k) ?_
  refine gs (mkF m 2 #[.val .null, .val .null, .unset, .unset, .unset, .unset] []) (fun T A t k => XS.astoreN A B.x rfl (B.d d7_1) rfl rfl (l' := #[.val .null, .val .null, .unset, .unset, .unset, .unset]) rfl k) ?_
  refine g_metP (c_static B (hw _ (List.mem_of_getElem? (i := 35) rfl)) (hw _ (List.mem_of_getElem? (i := 36) rfl)) (hw _ (List.mem_of_getElem? (i := 33) rfl)) (hw _ (List.mem_of_getElem? (i := 37) rfl)) (by decide) rfl (lenOf pd_28295bLcom2fexample2faffixity2faffixity2focfl2fOcflVersion3b rfl) rfl (Nat.le_of_eq rfl) d7_2 rfl (argsL := []) (rest := []) (W := 0) (q := 5)) (n_vals l Z a0 hw EW.nil  va kv e0 e1 s0 s1 t0 t1 zc rv h0 n0 PE (by omega) PX PO) (hw _ (List.mem_of_getElem? (i := 37) rfl)) (hw _ (List.mem_of_getElem? (i := 33) rfl)) (by decide) (by decide) (by decide) (by decide) (fun v h' q => ⟨[], by obtain ⟨x, -, K, -⟩ := q; exact K, all0⟩) ?_
  intro v21 h21 hz21 hQ21
  obtain ⟨x21, rfl, K21, g21, V21⟩ := hQ21
  refine g_wt (fun Wt22 => ?_)
  have z21 := K21.1; have y21 : @LT.lt Nat _ x21 h21.size := V21.lt
  refine gs (mkF m 6 #[.val .null, .val .null, .val (.ref x21), .unset, .unset, .unset] []) (fun T A t k => XS.astoreN A B.x rfl (B.d d7_5) rfl rfl (l' := #[.val .null, .val .null, .val (.ref x21), .unset, .unset, .unset]) rfl k) ?_
  refine gs (mkF m 7 _ [(.ref x21)]) (fun T A t k => XS.aloadN A B.x rfl (B.d d7_6) rfl rfl k) ?_
  refine g_len B V21 d7_7 (q := 8) rfl ?_
  refine gs (mkF m 9 #[.val .null, .val .null, .val (.ref x21), .val (.int (2 : Int32)), .unset, .unset] []) (fun T A t k => XS.istoreN A B.x rfl (B.d d7_8) rfl (l' := #[.val .null, .val .null, .val (.ref x21), .val (.int (2 : Int32)), .unset, .unset]) rfl k) ?_
  refine gs (mkF m 10 _ [(.int (0 : Int32))]) (fun T A t k => XS.iconst A B.x rfl (B.d d7_9) k) ?_
  refine gs (mkF m 12 #[.val .null, .val .null, .val (.ref x21), .val (.int (2 : Int32)), .val (.int (0 : Int32)), .unset] []) (fun T A t k => XS.istore A B.x rfl (B.d d7_10) rfl (l' := #[.val .null, .val .null, .val (.ref x21), .val (.int (2 : Int32)), .val (.int (0 : Int32)), .unset]) rfl k) ?_
  refine gs (mkF m 14 _ [(.int (0 : Int32))]) (fun T A t k => XS.iload A B.x rfl (B.d d7_12) rfl k) ?_
  refine gs (mkF m 15 _ [(.int (2 : Int32)), (.int (0 : Int32))]) (fun T A t k => XS.iloadN A B.x rfl (B.d d7_14) rfl k) ?_
  refine gs (mkF m 18 _ []) (fun T A t k => XS.icmpNo A B.x rfl (B.d d7_15) rfl (tlt (by decide : (0 : Int32) < (2 : Int32))).2.1 k) ?_
  refine gs (mkF m 19 _ [(.ref x21)]) (fun T A t k => XS.aloadN A B.x rfl (B.d d7_18) rfl rfl k) ?_
  refine gs (mkF m 21 _ [(.int (0 : Int32)), (.ref x21)]) (fun T A t k => XS.iload A B.x rfl (B.d d7_19) rfl k) ?_
  refine g_ldR B V21 rfl ⟨by decide, by decide⟩ (v := (.ref e0)) rfl d7_21 (q := 22) rfl ?_
  refine gs (mkF m 24 #[.val .null, .val .null, .val (.ref x21), .val (.int (2 : Int32)), .val (.int (0 : Int32)), .val (.ref e0)] []) (fun T A t k => XS.astore A B.x rfl (B.d d7_22) rfl rfl (l' := #[.val .null, .val .null, .val (.ref x21), .val (.int (2 : Int32)), .val (.int (0 : Int32)), .val (.ref e0)]) rfl k) ?_
  refine gs (mkF m 26 _ [(.ref e0)]) (fun T A t k => XS.aload A B.x rfl (B.d d7_24) rfl rfl k) ?_
  refine g_met hEL (c_virt B (G0.ext (PO.keep K21 all0).2) (hw _ (List.mem_of_getElem? (i := 52) rfl)) (hw _ (List.mem_of_getElem? (i := 53) rfl)) (hw _ (List.mem_of_getElem? (i := 55) rfl)) (hw _ (List.mem_of_getElem? (i := 54) rfl)) (nfs (z := (⟨"com/example/affixity/affixity/ocfl/OcflVersion", "inventoryType", "()Ljava/lang/String;"⟩ : MethodName)) (hw _ (List.mem_of_getElem? (i := 55) rfl))) (by decide) rfl (lenOf pd_2829Ljava2flang2fString3b rfl) rfl (Nat.le_of_eq rfl) d7_26 rfl (argsL := []) (rest := []) (W := 0) (q := 29)) (w_inv_48 l Z a0 hw hEL e0 zc rv s0 t0 h21 n0 (G0.ext (PO.keep K21 all0).2) (F0.ext (PO.keep K21 all0).2) (X0.ext (PO.keep K21 all0).2) (by omega) PX (PO.keep K21 all0)) (hw _ (List.mem_of_getElem? (i := 56) rfl)) (hw _ (List.mem_of_getElem? (i := 33) rfl)) (by decide) (by decide) (by decide) (by decide) (fun _ q => nomatch q) ?_
  intro v23 h23 vm23 hZ23 C23 hQ23
  obtain ⟨x23, t23, rfl, K23, X23⟩ := hQ23
  refine g_wt (fun Wt24 => ?_)
  have z23 := K23.1; have y23 := X23.lt; have w23 := X23.lt'
  refine gs (mkF m 30 _ [.null, (.ref x23)]) (fun T A t k => XS.aloadN A B.x rfl (B.d d7_29) rfl rfl k) ?_
  refine g_metP (c_virt B X23.exa (hw _ (List.mem_of_getElem? (i := 190) rfl)) (hw _ (List.mem_of_getElem? (i := 191) rfl)) (hw _ (List.mem_of_getElem? (i := 193) rfl)) (hw _ (List.mem_of_getElem? (i := 192) rfl)) (nfs (z := (⟨"java/lang/String", "equals", "(Ljava/lang/Object;)Z"⟩ : MethodName)) (hw _ (List.mem_of_getElem? (i := 193) rfl))) (by decide) rfl (lenOf pd_28Ljava2flang2fObject3b29Z rfl) rfl (Nat.le_of_eq rfl) d7_30 rfl (argsL := [.null]) (rest := []) (W := 0) (q := 33)) (n_eq0 l Z a0 hw EW.nil x23 h23 n0) (hw _ (List.mem_of_getElem? (i := 194) rfl)) (hw _ (List.mem_of_getElem? (i := 4) rfl)) (by decide) (by decide) (by decide) (by decide) (fun v h' q => ⟨[], by rw [← q.2]; exact Keep.refl _ _, all0⟩) ?_
  intro v25 h25 hz25 hQ25
  obtain ⟨rfl, rfl⟩ := hQ25
  refine gs (mkF m 39 _ []) (fun T A t k => XS.ifYes A B.x rfl (pc0 := 33) (pc' := 39) rfl (B.d d7_33) rfl ((if0 _ _).trans (teq (by decide : (0 : Int32) = (0 : Int32))).1) (by decide) (by decide) k) ?_
  refine gs (mkF m 42 #[.val .null, .val .null, .val (.ref x21), .val (.int (2 : Int32)), .val (.int (1 : Int32)), .val (.ref e0)] []) (fun T A t k => XS.iinc A B.x rfl (B.d d7_39) rfl (l' := #[.val .null, .val .null, .val (.ref x21), .val (.int (2 : Int32)), .val (.int (1 : Int32)), .val (.ref e0)]) rfl k) ?_
  refine gs (mkF m 12 _ []) (fun T A t k => XS.goto A B.x rfl (pc0 := 42) (pc' := 12) rfl (B.d d7_42) (by decide) (by decide) k) ?_
  refine gs (mkF m 14 _ [(.int (1 : Int32))]) (fun T A t k => XS.iload A B.x rfl (B.d d7_12) rfl k) ?_
  refine gs (mkF m 15 _ [(.int (2 : Int32)), (.int (1 : Int32))]) (fun T A t k => XS.iloadN A B.x rfl (B.d d7_14) rfl k) ?_
  refine gs (mkF m 18 _ []) (fun T A t k => XS.icmpNo A B.x rfl (B.d d7_15) rfl (tlt (by decide : (1 : Int32) < (2 : Int32))).2.1 k) ?_
  refine gs (mkF m 19 _ [(.ref x21)]) (fun T A t k => XS.aloadN A B.x rfl (B.d d7_18) rfl rfl k) ?_
  refine gs (mkF m 21 _ [(.int (1 : Int32)), (.ref x21)]) (fun T A t k => XS.iload A B.x rfl (B.d d7_19) rfl k) ?_
  refine g_ldR B (V21.keep K23 nin0) rfl ⟨by decide, by decide⟩ (v := (.ref e1)) rfl d7_21 (q := 22) rfl ?_
  refine gs (mkF m 24 #[.val .null, .val .null, .val (.ref x21), .val (.int (2 : Int32)), .val (.int (1 : Int32)), .val (.ref e1)] []) (fun T A t k => XS.astore A B.x rfl (B.d d7_22) rfl rfl (l' := #[.val .null, .val .null, .val (.ref x21), .val (.int (2 : Int32)), .val (.int (1 : Int32)), .val (.ref e1)]) rfl k) ?_
  refine gs (mkF m 26 _ [(.ref e1)]) (fun T A t k => XS.aload A B.x rfl (B.d d7_24) rfl rfl k) ?_
  refine g_met hEL (c_virt B (G1.ext ((PO.keep K21 all0).keep K23 all0).2) (hw _ (List.mem_of_getElem? (i := 52) rfl)) (hw _ (List.mem_of_getElem? (i := 53) rfl)) (hw _ (List.mem_of_getElem? (i := 55) rfl)) (hw _ (List.mem_of_getElem? (i := 54) rfl)) (nfs (z := (⟨"com/example/affixity/affixity/ocfl/OcflVersion", "inventoryType", "()Ljava/lang/String;"⟩ : MethodName)) (hw _ (List.mem_of_getElem? (i := 55) rfl))) (by decide) rfl (lenOf pd_2829Ljava2flang2fString3b rfl) rfl (Nat.le_of_eq rfl) d7_26 rfl (argsL := []) (rest := []) (W := 0) (q := 29)) (w_inv_49 l Z a0 hw hEL e1 zc rv s1 t1 h23 n0 (G1.ext ((PO.keep K21 all0).keep K23 all0).2) (F1.ext ((PO.keep K21 all0).keep K23 all0).2) (X1.ext ((PO.keep K21 all0).keep K23 all0).2) (by omega) PX ((PO.keep K21 all0).keep K23 all0)) (hw _ (List.mem_of_getElem? (i := 56) rfl)) (hw _ (List.mem_of_getElem? (i := 33) rfl)) (by decide) (by decide) (by decide) (by decide) (fun _ q => nomatch q) ?_
  intro v26 h26 vm26 hZ26 C26 hQ26
  obtain ⟨x26, t26, rfl, K26, X26⟩ := hQ26
  refine g_wt (fun Wt27 => ?_)
  have z26 := K26.1; have y26 := X26.lt; have w26 := X26.lt'
  refine gs (mkF m 30 _ [.null, (.ref x26)]) (fun T A t k => XS.aloadN A B.x rfl (B.d d7_29) rfl rfl k) ?_
  refine g_metP (c_virt B X26.exa (hw _ (List.mem_of_getElem? (i := 190) rfl)) (hw _ (List.mem_of_getElem? (i := 191) rfl)) (hw _ (List.mem_of_getElem? (i := 193) rfl)) (hw _ (List.mem_of_getElem? (i := 192) rfl)) (nfs (z := (⟨"java/lang/String", "equals", "(Ljava/lang/Object;)Z"⟩ : MethodName)) (hw _ (List.mem_of_getElem? (i := 193) rfl))) (by decide) rfl (lenOf pd_28Ljava2flang2fObject3b29Z rfl) rfl (Nat.le_of_eq rfl) d7_30 rfl (argsL := [.null]) (rest := []) (W := 0) (q := 33)) (n_eq0 l Z a0 hw EW.nil x26 h26 n0) (hw _ (List.mem_of_getElem? (i := 194) rfl)) (hw _ (List.mem_of_getElem? (i := 4) rfl)) (by decide) (by decide) (by decide) (by decide) (fun v h' q => ⟨[], by rw [← q.2]; exact Keep.refl _ _, all0⟩) ?_
  intro v28 h28 hz28 hQ28
  obtain ⟨rfl, rfl⟩ := hQ28
  refine gs (mkF m 39 _ []) (fun T A t k => XS.ifYes A B.x rfl (pc0 := 33) (pc' := 39) rfl (B.d d7_33) rfl ((if0 _ _).trans (teq (by decide : (0 : Int32) = (0 : Int32))).1) (by decide) (by decide) k) ?_
  refine gs (mkF m 42 #[.val .null, .val .null, .val (.ref x21), .val (.int (2 : Int32)), .val (.int (2 : Int32)), .val (.ref e1)] []) (fun T A t k => XS.iinc A B.x rfl (B.d d7_39) rfl (l' := #[.val .null, .val .null, .val (.ref x21), .val (.int (2 : Int32)), .val (.int (2 : Int32)), .val (.ref e1)]) rfl k) ?_
  refine gs (mkF m 12 _ []) (fun T A t k => XS.goto A B.x rfl (pc0 := 42) (pc' := 12) rfl (B.d d7_42) (by decide) (by decide) k) ?_
  refine gs (mkF m 14 _ [(.int (2 : Int32))]) (fun T A t k => XS.iload A B.x rfl (B.d d7_12) rfl k) ?_
  refine gs (mkF m 15 _ [(.int (2 : Int32)), (.int (2 : Int32))]) (fun T A t k => XS.iloadN A B.x rfl (B.d d7_14) rfl k) ?_
  refine gs (mkF m 45 _ []) (fun T A t k => XS.icmpYes A B.x rfl (pc0 := 15) (pc' := 45) rfl (B.d d7_15) rfl (flt (by decide : ¬ ((2 : Int32) < (2 : Int32)))).2.1 (by decide) (by decide) k) ?_
  refine gs (mkF m 46 _ [.null]) (fun T A t k => XS.aloadN A B.x rfl (B.d d7_45) rfl rfl k) ?_
  exact g_retA B rfl rfl d7_46 (by decide) (by decide) ⟨rfl, ((((Keep.refl h0 []).trans K21 all0).trans K23 all0).trans K26 all0)⟩
theorem d37_0 : decode jdk_42_method_139_code 0 = .ok (.getstatic 38, 3) := by decide +kernel
theorem d37_3 : decode jdk_42_method_139_code 3 = .ok (.ifCond .eq 23, 3) := by decide +kernel
theorem d37_6 : decode jdk_42_method_139_code 6 = .ok (.iload_n 0, 1) := by decide +kernel
theorem pn_java_lang_StringLatin1 : plainName "java/lang/StringLatin1" = true := by first | (simp [plainName, overriddenIn]; done) | decide +kernel
theorem d38_0 : decode jdk_43_method_3_code 0 = .ok (.iload_n 0, 1) := by decide +kernel
theorem d38_1 : decode jdk_43_method_3_code 1 = .ok (.sipush 255, 3) := by decide +kernel
theorem d38_4 : decode jdk_43_method_3_code 4 = .ok (.if_icmp .gt 7, 3) := by decide +kernel
theorem d38_7 : decode jdk_43_method_3_code 7 = .ok (.iconst 1, 1) := by decide +kernel
theorem d38_8 : decode jdk_43_method_3_code 8 = .ok (.goto 4, 3) := by decide +kernel
theorem d38_12 : decode jdk_43_method_3_code 12 = .ok (.ireturn, 1) := by decide +kernel
set_option maxRecDepth 65536 in
set_option maxHeartbeats 40000000 in
theorem n_cech (l : Launch) (Z : State) (a0 : Array Value) (hw : ∀ d ∈ tables_1, d.before a0 Z = true) (hEL : EW Z a0 []) (cc : Int32)  (h0 : Heap) (n0 : Nat) (hl : ¬ (255 : Int32) < cc) :
    Met false Z [] l (⟨"java/lang/StringLatin1", "canEncode", "(C)Z"⟩ : MethodName) jdk_43_method_3_code 1 (some .boolean) ({ frames := 0, cells := 0, slots := 0, locals := 0 } : Room) #[(.int cc)] h0 [] n0 (fun v h => v = some (.int (1 : Int32)) ∧ h0 = h) := by
  refine Met.of (a0 := a0) (Ls := #[.val (.int cc)]) (fun z => rfl) (plainFor_of_name pn_java_lang_StringLatin1) hEL (fun m => by first | (simp [entryFrame, mkF, argsToLocals, Value.category]; done) | rfl) ?_
  intro p e s m below meth c B hSf
  refine gs (mkF m 1 _ [(.int cc)]) (fun T A t k => XS.iloadN A B.x rfl (B.d d38_0) rfl k) ?_
  refine gs (mkF m 4 _ [(.int (255 : Int32)), (.int cc)]) (fun T A t k => XS.sipush A B.x rfl (B.d d38_1) k) ?_
  refine gs (mkF m 7 _ []) (fun T A t k => XS.icmpNo A B.x rfl (B.d d38_4) rfl (flt (hl : ¬ ((255 : Int32) < cc))).2.2.1 k) ?_
  refine gs (mkF m 8 _ [(.int (1 : Int32))]) (fun T A t k => XS.iconst A B.x rfl (B.d d38_7) k) ?_
  refine gs (mkF m 12 _ [(.int (1 : Int32))]) (fun T A t k => XS.goto A B.x rfl (pc0 := 8) (pc' := 12) rfl (B.d d38_8) (by decide) (by decide) k) ?_
  exact g_retN (t := .boolean) B (by simp) d38_12 (by decide) (by decide) ⟨rfl, rfl⟩
theorem pd_28C29Z : parseMethodDescriptor "(C)Z" = some ⟨[.char], some .boolean⟩ := by decide +kernel
theorem d37_7 : decode jdk_42_method_139_code 7 = .ok (.invokestatic 1015, 3) := by decide +kernel
theorem d37_10 : decode jdk_42_method_139_code 10 = .ok (.ifCond .eq 16, 3) := by decide +kernel
theorem d37_13 : decode jdk_42_method_139_code 13 = .ok (.new 10, 3) := by decide +kernel
theorem d37_16 : decode jdk_42_method_139_code 16 = .ok (.dup, 1) := by decide +kernel
theorem d37_17 : decode jdk_42_method_139_code 17 = .ok (.iload_n 0, 1) := by decide +kernel
theorem d39_0 : decode jdk_43_method_46_code 0 = .ok (.iconst 1, 1) := by decide +kernel
theorem d39_1 : decode jdk_43_method_46_code 1 = .ok (.newarray .byte, 2) := by decide +kernel
theorem d39_3 : decode jdk_43_method_46_code 3 = .ok (.dup, 1) := by decide +kernel
theorem d39_4 : decode jdk_43_method_46_code 4 = .ok (.iconst 0, 1) := by decide +kernel
theorem d39_5 : decode jdk_43_method_46_code 5 = .ok (.iload_n 0, 1) := by decide +kernel
theorem d39_6 : decode jdk_43_method_46_code 6 = .ok (.i2b, 1) := by decide +kernel
theorem d39_7 : decode jdk_43_method_46_code 7 = .ok (.bastore, 1) := by decide +kernel
theorem d39_8 : decode jdk_43_method_46_code 8 = .ok (.areturn, 1) := by decide +kernel
set_option maxRecDepth 65536 in
set_option maxHeartbeats 40000000 in
theorem n_tbc (l : Launch) (Z : State) (a0 : Array Value) (hw : ∀ d ∈ tables_1, d.before a0 Z = true) (hEL : EW Z a0 []) (cc : Int32)  (h0 : Heap) (n0 : Nat) (hn : @LE.le Nat _ n0 h0.size) :
    Met false Z [] l (⟨"java/lang/StringLatin1", "toBytes", "(C)[B"⟩ : MethodName) jdk_43_method_46_code 1 (some (.array .byte)) ({ frames := 0, cells := 1, slots := 1, locals := 0 } : Room) #[(.int cc)] h0 [] n0 (fun v h => ∃ (x : Addr) (kb' : ClassId), v = some (.ref x) ∧ Keep h0 h [] ∧ @LE.le Nat _ h0.size x ∧ Arv Z h x kb' .byte (1 : Int32) [(.int (StrChars.lo8 cc))] (.int (0 : Int32))) := by
  refine Met.of (a0 := a0) (Ls := #[.val (.int cc)]) (fun z => rfl) (plainFor_of_name pn_java_lang_StringLatin1) hEL (fun m => by first | (simp [entryFrame, mkF, argsToLocals, Value.category]; done) | rfl) ?_
  intro p e s m below meth c B hSf
  refine gs (mkF m 1 _ [(.int (1 : Int32))]) (fun T A t k => XS.iconst A B.x rfl (B.d d39_0) k) ?_
  refine g_newP B (hw _ (List.mem_of_getElem? (i := 20) rfl)) d39_1 (by decide) (cap := 1) (by decide) (by decide) (by decide) (by decide) (q := 3) rfl ?_
  intro h1 b1 k1 g1 E1 S1 A1
  have z1 := E1.1; have y1 : @LT.lt Nat _ b1 h1.size := A1.lt
  have V1 : Arv Z h1 b1 k1 .byte (1 : Int32) [(.int (0 : Int32))] (.int (0 : Int32)) := A1
  refine gs (mkF m 4 _ [(.ref b1), (.ref b1)]) (fun T A t k => XS.dup A B.x rfl (B.d d39_3) rfl rfl k) ?_
  refine gs (mkF m 5 _ [(.int (0 : Int32)), (.ref b1), (.ref b1)]) (fun T A t k => XS.iconst A B.x rfl (B.d d39_4) k) ?_
  refine gs (mkF m 6 _ [(.int cc), (.int (0 : Int32)), (.ref b1), (.ref b1)]) (fun T A t k => XS.iloadN A B.x rfl (B.d d39_5) rfl k) ?_
  refine gs (mkF m 7 _ [(.int (cc.toInt8.toInt32)), (.int (0 : Int32)), (.ref b1), (.ref b1)]) (fun T A t k => XS.i2b A B.x rfl (B.d d39_6) rfl k) ?_
  refine g_stB B V1 (x' := (StrChars.lo8 cc)) (nb8 _) ⟨by decide, by decide⟩ (i := 0) rfl (Nat.le_of_ble_eq_true rfl) d39_7 nos (by omega) (q := 8) rfl ?_
  intro h2 W2 A2
  have z2 := W2.size
  have V2 : Arv Z h2 b1 k1 .byte (1 : Int32) [(.int (StrChars.lo8 cc))] (.int (0 : Int32)) := A2
  exact g_retA B rfl rfl d39_8 (by decide) (by decide) ⟨_, _, rfl, (((Keep.refl h0 []).ext E1).wr W2 (Or.inr (by omega))), (by omega), V2⟩
theorem pd_28C295bB : parseMethodDescriptor "(C)[B" = some ⟨[.char], some (.array .byte)⟩ := by decide +kernel
theorem d37_18 : decode jdk_42_method_139_code 18 = .ok (.invokestatic 1018, 3) := by decide +kernel
theorem d37_21 : decode jdk_42_method_139_code 21 = .ok (.iconst 0, 1) := by decide +kernel
theorem d40_0 : decode jdk_42_method_151_code 0 = .ok (.aload_n 0, 1) := by decide +kernel
theorem d40_1 : decode jdk_42_method_151_code 1 = .ok (.invokespecial 1, 3) := by decide +kernel
theorem d40_4 : decode jdk_42_method_151_code 4 = .ok (.aload_n 0, 1) := by decide +kernel
theorem d40_5 : decode jdk_42_method_151_code 5 = .ok (.aload_n 1, 1) := by decide +kernel
theorem d40_6 : decode jdk_42_method_151_code 6 = .ok (.putfield 9, 3) := by decide +kernel
theorem d40_9 : decode jdk_42_method_151_code 9 = .ok (.aload_n 0, 1) := by decide +kernel
theorem d40_10 : decode jdk_42_method_151_code 10 = .ok (.iload_n 2, 1) := by decide +kernel
theorem d40_11 : decode jdk_42_method_151_code 11 = .ok (.putfield 15, 3) := by decide +kernel
theorem d40_14 : decode jdk_42_method_151_code 14 = .ok (.return_, 1) := by decide +kernel
set_option maxRecDepth 65536 in
set_option maxHeartbeats 40000000 in
theorem n_sbb (l : Launch) (Z : State) (a0 : Array Value) (hw : ∀ d ∈ tables_1, d.before a0 Z = true) (hEL : EW Z a0 []) (a1 : Addr) (a2 : Addr)  (h0 : Heap) (n0 : Nat) (PE : Exa Z h0 a1 "java/lang/String") (PV : Fld Z h0 a1 "java/lang/String" "value" "[B" .null) (PC : Fld Z h0 a1 "java/lang/String" "coder" "B" (.int (0 : Int32))) (hd : @LE.le Nat _ n0 a1) :
    Met false Z [] l (⟨"java/lang/String", "<init>", "([BB)V"⟩ : MethodName) jdk_42_method_151_code 3 none ({ frames := 1, cells := 0, slots := 0, locals := 12 } : Room) #[(.ref a1), (.ref a2), (.int (0 : Int32))] h0 [] n0 (fun v h => v = none ∧ Keep h0 h [a1] ∧ Fld Z h a1 "java/lang/String" "value" "[B" (.ref a2) ∧ Fld Z h a1 "java/lang/String" "coder" "B" (.int (0 : Int32))) := by
  refine Met.of (a0 := a0) (Ls := #[.val (.ref a1), .val (.ref a2), .val (.int (0 : Int32))]) (fun z => rfl) (plainFor_of_name pn_java_lang_String) hEL (fun m => by first | (simp [entryFrame, mkF, argsToLocals, Value.category]; done) | rfl) ?_
  intro p e s m below meth c B hSf
  have hlt1 : @LT.lt Nat _ a1 h0.size := PE.lt
  refine gs (mkF m 1 _ [(.ref a1)]) (fun T A t k => XS.aloadN A B.x rfl (B.d d40_0) rfl rfl k) ?_
  refine g_initO B (hw _ (List.mem_of_getElem? (i := 12) rfl)) (hw _ (List.mem_of_getElem? (i := 13) rfl)) (hw _ (List.mem_of_getElem? (i := 14) rfl)) rfl d40_1 (by decide) (W := 0) (Nat.le_of_eq rfl) (by decide) (q := 4) rfl ?_
  refine gs (mkF m 5 _ [(.ref a1)]) (fun T A t k => XS.aloadN A B.x rfl (B.d d40_4) rfl rfl k) ?_
  refine gs (mkF m 6 _ [(.ref a2), (.ref a1)]) (fun T A t k => XS.aloadN A B.x rfl (B.d d40_5) rfl rfl k) ?_
  refine g_putF B (hw _ (List.mem_of_getElem? (i := 29) rfl)) Via.refl PV PE (Or.inr ⟨(hw _ (List.mem_of_getElem? (i := 30) rfl)), rfl, rfl⟩) (hw _ (List.mem_of_getElem? (i := 3) rfl)) (ty := (.array .byte)) (by decide) rfl rfl d40_6 nos (by omega) (q := 9) rfl ?_
  intro h21 W21 F21
  have z21 := W21.size
  refine gs (mkF m 10 _ [(.ref a1)]) (fun T A t k => XS.aloadN A B.x rfl (B.d d40_9) rfl rfl k) ?_
  refine gs (mkF m 11 _ [(.int (0 : Int32)), (.ref a1)]) (fun T A t k => XS.iloadN A B.x rfl (B.d d40_10) rfl k) ?_
  refine g_putFN B (hw _ (List.mem_of_getElem? (i := 27) rfl)) Via.refl (PC.other W21 (Or.inr (slot_ne (Or.inr (hw _ (List.mem_of_getElem? (i := 28) rfl))) (Or.inr (hw _ (List.mem_of_getElem? (i := 30) rfl))) (by decide) (t := .byte) (t' := (.array .byte)) (by decide) (by decide)))) (PE.wr W21) (Or.inr ⟨(hw _ (List.mem_of_getElem? (i := 28) rfl)), rfl, rfl⟩) (hw _ (List.mem_of_getElem? (i := 3) rfl)) (ty := .byte) (v' := (.int (0 : Int32))) (by decide) rfl rfl d40_11 nos (by omega) (q := 14) rfl ?_
  intro h22 W22 F22
  have z22 := W22.size
  exact g_ret0 B d40_14 (by decide) (by decide) ⟨rfl, (((Keep.refl h0 [a1]).wr W21 (Or.inl (by simp))).wr W22 (Or.inl (by simp))), (F21.other W22 (Or.inr (slot_ne (Or.inr (hw _ (List.mem_of_getElem? (i := 30) rfl))) (Or.inr (hw _ (List.mem_of_getElem? (i := 28) rfl))) (by decide) (t := (.array .byte)) (t' := .byte) (by decide) (by decide)))), F22⟩
theorem pd_285bBB29V : parseMethodDescriptor "([BB)V" = some ⟨[(.array .byte), .byte], none⟩ := by decide +kernel
theorem d37_22 : decode jdk_42_method_139_code 22 = .ok (.invokespecial 209, 3) := by decide +kernel
theorem d37_25 : decode jdk_42_method_139_code 25 = .ok (.areturn, 1) := by decide +kernel
set_option maxRecDepth 65536 in
set_option maxHeartbeats 40000000 in
theorem n_valueOf (l : Launch) (Z : State) (a0 : Array Value) (hw : ∀ d ∈ tables_1, d.before a0 Z = true) (hEL : EW Z a0 []) (cc : Int32) (zc : Int32) (rv : Value) (h0 : Heap) (n0 : Nat) (hcc : ¬ cc < 0 ∧ ¬ (255 : Int32) < cc) (hn : @LE.le Nat _ n0 h0.size) (PX : Sts Z zc rv) (PO : Old Z n0 h0) :
    Met false Z [] l (⟨"java/lang/String", "valueOf", "(C)Ljava/lang/String;"⟩ : MethodName) jdk_42_method_139_code 1 (some (.object "java/lang/String")) ({ frames := 2, cells := 2, slots := 5, locals := 27 } : Room) #[(.int cc)] h0 [] n0 (fun v h => ∃ x t : Addr, v = some (.ref x) ∧ Keep h0 h [] ∧ Str Z h x t [cc]) := by
  refine Met.of (a0 := a0) (Ls := #[.val (.int cc)]) (fun z => rfl) (plainFor_of_name pn_java_lang_String) hEL (fun m => by first | (simp [entryFrame, mkF, argsToLocals, Value.category]; done) | rfl) ?_
  intro p e s m below meth c B hSf
  obtain ⟨SC, hzc, SF, rf⟩ := id PX
  refine g_getS B (hw _ (List.mem_of_getElem? (i := 15) rfl)) (SC.ext PO.2) d37_0 (q := 3) rfl ?_
  refine gs (mkF m 6 _ []) (fun T A t k => XS.ifNo A B.x rfl (B.d d37_3) rfl ((if0 _ _).trans (feq (hzc : ¬ (zc = (0 : Int32)))).1) k) ?_
  refine gs (mkF m 7 _ [(.int cc)]) (fun T A t k => XS.iloadN A B.x rfl (B.d d37_6) rfl k) ?_
  refine g_metN (c_static B (hw _ (List.mem_of_getElem? (i := 204) rfl)) (hw _ (List.mem_of_getElem? (i := 205) rfl)) (hw _ (List.mem_of_getElem? (i := 198) rfl)) (hw _ (List.mem_of_getElem? (i := 206) rfl)) (by decide) rfl (lenOf pd_28C29Z rfl) rfl (Nat.le_of_eq rfl) d37_7 rfl (argsL := [(.int cc)]) (rest := []) (W := 0) (q := 10)) (n_cech l Z a0 hw hEL (cc) h0 n0 hcc.2) (hw _ (List.mem_of_getElem? (i := 206) rfl)) (hw _ (List.mem_of_getElem? (i := 198) rfl)) (by decide) (by decide) (by decide) (by decide) ?_
  intro v21 h21 hz21 hQ21
  obtain ⟨rfl, rfl⟩ := hQ21
  refine gs (mkF m 13 _ []) (fun T A t k => XS.ifNo A B.x rfl (B.d d37_10) rfl ((if0 _ _).trans (feq (by decide : ¬ ((1 : Int32) = (0 : Int32)))).1) k) ?_
  refine g_newO B (hw _ (List.mem_of_getElem? (i := 195) rfl)) (hw _ (List.mem_of_getElem? (i := 3) rfl)) (hw _ (List.mem_of_getElem? (i := 4) rfl)) d37_13 (by decide) (by decide) (q := 16) rfl ?_
  intro h22 b22 g22 E22 S22 A22 D22
  have z22 := E22.1; have y22 : @LT.lt Nat _ b22 h22.size := A22.lt
  have F22_coder : Fld Z h22 b22 "java/lang/String" "coder" "B" (.int (0 : Int32)) := D22 (Or.inr (hw _ (List.mem_of_getElem? (i := 28) rfl))) (ty := .byte) (by decide)
  have F22_value : Fld Z h22 b22 "java/lang/String" "value" "[B" .null := D22 (Or.inr (hw _ (List.mem_of_getElem? (i := 30) rfl))) (ty := (.array .byte)) (by decide)
  refine gs (mkF m 17 _ [(.ref b22), (.ref b22)]) (fun T A t k => XS.dup A B.x rfl (B.d d37_16) rfl rfl k) ?_
  refine gs (mkF m 18 _ [(.int cc), (.ref b22), (.ref b22)]) (fun T A t k => XS.iloadN A B.x rfl (B.d d37_17) rfl k) ?_
  refine g_metN (c_static B (hw _ (List.mem_of_getElem? (i := 207) rfl)) (hw _ (List.mem_of_getElem? (i := 208) rfl)) (hw _ (List.mem_of_getElem? (i := 198) rfl)) (hw _ (List.mem_of_getElem? (i := 209) rfl)) (by decide) rfl (lenOf pd_28C295bB rfl) rfl (Nat.le_of_eq rfl) d37_18 rfl (argsL := [(.int cc)]) (rest := [(.ref b22), (.ref b22)]) (W := 2) (q := 21)) (n_tbc l Z a0 hw hEL (cc) h22 n0 (by omega)) (hw _ (List.mem_of_getElem? (i := 209) rfl)) (hw _ (List.mem_of_getElem? (i := 198) rfl)) (by decide) (by decide) (by decide) (by decide) ?_
  intro v23 h23 hz23 hQ23
  obtain ⟨x23, k23, rfl, K23, g23, V23⟩ := hQ23
  have z23 := K23.1; have y23 : @LT.lt Nat _ x23 h23.size := V23.lt
  refine gs (mkF m 22 _ [(.int (0 : Int32)), (.ref x23), (.ref b22), (.ref b22)]) (fun T A t k => XS.iconst A B.x rfl (B.d d37_21) k) ?_
  refine g_metN (c_init B rfl (hw _ (List.mem_of_getElem? (i := 210) rfl)) (hw _ (List.mem_of_getElem? (i := 211) rfl)) (hw _ (List.mem_of_getElem? (i := 212) rfl)) (by decide) rfl (lenOf pd_285bBB29V rfl) rfl (Nat.le_of_eq rfl) d37_22 rfl (argsL := [(.ref x23), (.int (0 : Int32))]) (rest := [(.ref b22)]) (W := 1) (q := 25)) (n_sbb l Z a0 hw hEL b22 x23 h23 n0 (A22.keep K23) (F22_value.keep K23 nin0) (F22_coder.keep K23 nin0) (by omega)) (hw _ (List.mem_of_getElem? (i := 212) rfl)) (hw _ (List.mem_of_getElem? (i := 4) rfl)) (by decide) (by decide) (by decide) (by decide) ?_
  intro v24 h24 hz24 hQ24
  obtain ⟨rfl, K24, F24v, F24c⟩ := hQ24
  have z24 := K24.1
  exact g_retA B rfl rfl d37_25 (by decide) (by decide) ⟨_, _, rfl, ((((Keep.refl h0 []).ext E22).trans K23 all0).trans K24 (allS (Or.inr (by omega)) all0)), Str.mk0 ((A22.keep K23).keep K24) F24v F24c (V23.keep K24 (ninS (by omega : @Ne Nat x23 b22) nin0)) rfl rfl (by intro c hc; cases List.mem_singleton.mp hc; exact hcc) (by simp)⟩
theorem pn_com_example_affixity_affixity_ocfl_OcflVersionOfInventoryTypePinLaw : plainName "com/example/affixity/affixity/ocfl/OcflVersionOfInventoryTypePinLaw" = true := by first | (simp [plainName, overriddenIn]; done) | decide +kernel
theorem pd_285bC29V : parseMethodDescriptor "([C)V" = some ⟨[(.array .char)], none⟩ := by decide +kernel
theorem pd_28Ljava2flang2fString3b29Lcom2fexample2faffixity2faffixity2focfl2fOcflVersion3b : parseMethodDescriptor "(Ljava/lang/String;)Lcom/example/affixity/affixity/ocfl/OcflVersion;" = some ⟨[(.object "java/lang/String")], some (.object "com/example/affixity/affixity/ocfl/OcflVersion")⟩ := by decide +kernel
theorem pd_28C29Ljava2flang2fString3b : parseMethodDescriptor "(C)Ljava/lang/String;" = some ⟨[.char], some (.object "java/lang/String")⟩ := by decide +kernel
set_option maxRecDepth 65536 in
set_option maxHeartbeats 40000000 in
theorem own_law (l : Launch) (Z : State) (a0 : Array Value) (hw : ∀ d ∈ tables_1, d.before a0 Z = true) (hEL : EW Z a0 consts_1) (p1 : Int32) (p2 : Int32) (p3 : Int32) (p4 : Int32) (va : Addr) (kv : ClassId) (e0 e1 s0 s1 t0 t1 : Addr) (zc : Int32) (rv : Value) (h0 : Heap) (n0 : Nat) (PE : Enums Z va kv e0 e1 s0 s1 t0 t1) (hn : @LE.le Nat _ n0 h0.size) (PX : Sts Z zc rv) (PO : Old Z n0 h0) :
    Met true Z consts_1 l x code maxLocals ret room_1 #[(.int p1), (.int p2), (.int p3), (.int p4)] h0 [] n0 (fun v h => v = some (.int 1)) := by
  refine Met.of (a0 := a0) (Ls := #[.val (.int p1), .val (.int p2), .val (.int p3), .val (.int p4), .unset, .unset, .unset, .unset, .unset, .unset, .unset, .unset, .unset, .unset]) (fun z => (nomatch z)) (plainFor_of_name pn_com_example_affixity_affixity_ocfl_OcflVersionOfInventoryTypePinLaw) hEL (fun m => by first | (simp [entryFrame, mkF, argsToLocals, Value.category, maxLocals]; done) | rfl) ?_
  intro p e s m below meth c B hSf
  refine g_wt (fun Wt0 => ?_)
  obtain ⟨SC, hzc, SF, rf⟩ := id PX
  obtain ⟨⟨S0, G0, F0, X0⟩, ⟨S1, G1, F1, X1⟩, SV, EV, AV⟩ := id PE
  refine gs (mkF m 1 _ [(.int p3)]) (fun T A t k => XS.iloadN A B.x rfl (B.d at_0) rfl k) ?_
  refine gs (mkF m 4 _ [(.int (255 : Int32)), (.int p3)]) (fun T A t k => XS.sipush A B.x rfl (B.d at_1) k) ?_
  refine gs (mkF m 5 _ [(.int (p3 &&& (255 : Int32)))]) (fun T A t k => XS.iand A B.x rfl (B.d at_4) rfl k) ?_
  refine gs (mkF m 6 _ [(.int ((p3 &&& (255 : Int32)).toUInt32.toUInt16.toUInt32.toInt32))]) (fun T A t k => XS.i2c A B.x rfl (B.d at_5) rfl k) ?_
  generalize e_cc : ((p3 &&& (255 : Int32)).toUInt32.toUInt16.toUInt32.toInt32) = cc
  have hcc : ¬ cc < 0 ∧ ¬ (255 : Int32) < cc := e_cc ▸ r8_i2c p3
  clear e_cc
  refine gs (mkF m 8 #[.val (.int p1), .val (.int p2), .val (.int p3), .val (.int p4), .val (.int cc), .unset, .unset, .unset, .unset, .unset, .unset, .unset, .unset, .unset] []) (fun T A t k => XS.istore A B.x rfl (B.d at_6) rfl (l' := #[.val (.int p1), .val (.int p2), .val (.int p3), .val (.int p4), .val (.int cc), .unset, .unset, .unset, .unset, .unset, .unset, .unset, .unset, .unset]) rfl k) ?_
  refine gs (mkF m 9 _ [(.int p4)]) (fun T A t k => XS.iloadN A B.x rfl (B.d at_8) rfl k) ?_
  refine gs (mkF m 10 _ [(.int (1 : Int32)), (.int p4)]) (fun T A t k => XS.iconst A B.x rfl (B.d at_9) k) ?_
  refine gs (mkF m 11 _ [(.int (p4 &&& (1 : Int32)))]) (fun T A t k => XS.iand A B.x rfl (B.d at_10) rfl k) ?_
  refine gjA (fun bs => mkF m 21 #[.val (.int p1), .val (.int p2), .val (.int p3), .val (.int p4), .val (.int cc), .unset, .unset, .unset, .unset, .unset, .unset, .unset, .unset, .unset] [(.int bs)]) (fun bs => bs = (48 : Int32) ∨ bs = (49 : Int32)) ?_ (fun J => ?_)
  · rintro bs h_bs
    have hb8 : r8 bs := by rcases h_bs with rfl | rfl <;> exact ⟨by decide, by decide⟩
    refine gs (mkF m 23 #[.val (.int p1), .val (.int p2), .val (.int p3), .val (.int p4), .val (.int cc), .val (.int bs), .unset, .unset, .unset, .unset, .unset, .unset, .unset, .unset] []) (fun T A t k => XS.istore A B.x rfl (B.d at_21) rfl (l' := #[.val (.int p1), .val (.int p2), .val (.int p3), .val (.int p4), .val (.int cc), .val (.int bs), .unset, .unset, .unset, .unset, .unset, .unset, .unset, .unset]) rfl k) ?_
    refine gs (mkF m 24 _ [(.int p4)]) (fun T A t k => XS.iloadN A B.x rfl (B.d at_23) rfl k) ?_
    refine gs (mkF m 25 _ [(.int (2 : Int32)), (.int p4)]) (fun T A t k => XS.iconst A B.x rfl (B.d at_24) k) ?_
    refine gs (mkF m 26 _ [(.int (p4 &&& (2 : Int32)))]) (fun T A t k => XS.iand A B.x rfl (B.d at_25) rfl k) ?_
    refine gjA (fun kp => mkF m 34 #[.val (.int p1), .val (.int p2), .val (.int p3), .val (.int p4), .val (.int cc), .val (.int bs), .unset, .unset, .unset, .unset, .unset, .unset, .unset, .unset] [(.int kp)]) (fun kp => kp = (0 : Int32) ∨ kp = (1 : Int32)) ?_ (fun J => ?_)
    · rintro kp h_kp
      refine gs (mkF m 36 #[.val (.int p1), .val (.int p2), .val (.int p3), .val (.int p4), .val (.int cc), .val (.int bs), .val (.int kp), .unset, .unset, .unset, .unset, .unset, .unset, .unset] []) (fun T A t k => XS.istore A B.x rfl (B.d at_34) rfl (l' := #[.val (.int p1), .val (.int p2), .val (.int p3), .val (.int p4), .val (.int cc), .val (.int bs), .val (.int kp), .unset, .unset, .unset, .unset, .unset, .unset, .unset]) rfl k) ?_
      refine gs (mkF m 37 _ [(.int p1)]) (fun T A t k => XS.iloadN A B.x rfl (B.d at_36) rfl k) ?_
      refine gs (mkF m 38 _ [(.int (3 : Int32)), (.int p1)]) (fun T A t k => XS.iconst A B.x rfl (B.d at_37) k) ?_
      refine gs (mkF m 39 _ [(.int (p1 &&& (3 : Int32)))]) (fun T A t k => XS.iand A B.x rfl (B.d at_38) rfl k) ?_
      generalize e_nn : (p1 &&& (3 : Int32)) = nn
      have h3 : nn = 0 ∨ nn = 1 ∨ nn = 2 ∨ nn = 3 := e_nn ▸ and3 p1
      refine gs (mkF m 41 #[.val (.int p1), .val (.int p2), .val (.int p3), .val (.int p4), .val (.int cc), .val (.int bs), .val (.int kp), .val (.int nn), .unset, .unset, .unset, .unset, .unset, .unset] []) (fun T A t k => XS.istore A B.x rfl (B.d at_39) rfl (l' := #[.val (.int p1), .val (.int p2), .val (.int p3), .val (.int p4), .val (.int cc), .val (.int bs), .val (.int kp), .val (.int nn), .unset, .unset, .unset, .unset, .unset, .unset]) rfl k) ?_
      clear e_nn; rcases h3 with rfl | rfl | rfl | rfl
      · refine gs (mkF m 43 _ [(.int (0 : Int32))]) (fun T A t k => XS.iload A B.x rfl (B.d at_41) rfl k) ?_
        refine gs (mkF m 46 _ []) (fun T A t k => XS.ifNo A B.x rfl (B.d at_43) rfl ((if0 _ _).trans (teq (by decide : (0 : Int32) = (0 : Int32))).2) k) ?_
        refine gs (mkF m 48 _ [(.int (35 : Int32))]) (fun T A t k => XS.bipush A B.x rfl (B.d at_46) k) ?_
        refine g_newP B (hw _ (List.mem_of_getElem? (i := 0) rfl)) at_48 (by decide) (cap := 35) (by decide) (by decide) (by decide) (by decide) (q := 50) rfl ?_
        intro h21 b21 k21 g21 E21 S21 A21
        refine g_wt (fun Wt22 => ?_)
        have z21 := E21.1; have y21 : @LT.lt Nat _ b21 h21.size := A21.lt
        have V21 : Arv Z h21 b21 k21 .char (35 : Int32) [(.int (0 : Int32)), (.int (0 : Int32)), (.int (0 : Int32)), (.int (0 : Int32)), (.int (0 : Int32)), (.int (0 : Int32)), (.int (0 : Int32)), (.int (0 : Int32)), (.int (0 : Int32)), (.int (0 : Int32)), (.int (0 : Int32)), (.int (0 : Int32)), (.int (0 : Int32)), (.int (0 : Int32)), (.int (0 : Int32)), (.int (0 : Int32)), (.int (0 : Int32)), (.int (0 : Int32)), (.int (0 : Int32)), (.int (0 : Int32)), (.int (0 : Int32)), (.int (0 : Int32)), (.int (0 : Int32)), (.int (0 : Int32)), (.int (0 : Int32)), (.int (0 : Int32)), (.int (0 : Int32)), (.int (0 : Int32)), (.int (0 : Int32)), (.int (0 : Int32)), (.int (0 : Int32)), (.int (0 : Int32)), (.int (0 : Int32)), (.int (0 : Int32)), (.int (0 : Int32))] (.int (0 : Int32)) := A21
        refine gs (mkF m 51 _ [(.ref b21), (.ref b21)]) (fun T A t k => XS.dup A B.x rfl (B.d at_50) rfl rfl k) ?_
        refine gs (mkF m 52 _ [(.int (0 : Int32)), (.ref b21), (.ref b21)]) (fun T A t k => XS.iconst A B.x rfl (B.d at_51) k) ?_
        refine gs (mkF m 54 _ [(.int (104 : Int32)), (.int (0 : Int32)), (.ref b21), (.ref b21)]) (fun T A t k => XS.bipush A B.x rfl (B.d at_52) k) ?_
        refine g_stC B V21 (x' := (104 : Int32)) (by decide) ⟨by decide, by decide⟩ (i := 0) rfl (Nat.le_of_ble_eq_true rfl) at_54 (Safe.arv Wt22.1.alike V21 (by decide)) (by omega) (q := 55) rfl ?_
        intro h23 W23 A23
        refine g_wt (fun Wt24 => ?_)
        have z23 := W23.size
        have V23 : Arv Z h23 b21 k21 .char (35 : Int32) [(.int (104 : Int32)), (.int (0 : Int32)), (.int (0 : Int32)), (.int (0 : Int32)), (.int (0 : Int32)), (.int (0 : Int32)), (.int (0 : Int32)), (.int (0 : Int32)), (.int (0 : Int32)), (.int (0 : Int32)), (.int (0 : Int32)), (.int (0 : Int32)), (.int (0 : Int32)), (.int (0 : Int32)), (.int (0 : Int32)), (.int (0 : Int32)), (.int (0 : Int32)), (.int (0 : Int32)), (.int (0 : Int32)), (.int (0 : Int32)), (.int (0 : Int32)), (.int (0 : Int32)), (.int (0 : Int32)), (.int (0 : Int32)), (.int (0 : Int32)), (.int (0 : Int32)), (.int (0 : Int32)), (.int (0 : Int32)), (.int (0 : Int32)), (.int (0 : Int32)), (.int (0 : Int32)), (.int (0 : Int32)), (.int (0 : Int32)), (.int (0 : Int32)), (.int (0 : Int32))] (.int (0 : Int32)) := A23
        refine gs (mkF m 56 _ [(.ref b21), (.ref b21)]) (fun T A t k => XS.dup A B.x rfl (B.d at_55) rfl rfl k) ?_
        refine gs (mkF m 57 _ [(.int (1 : Int32)), (.ref b21), (.ref b21)]) (fun T A t k => XS.iconst A B.x rfl (B.d at_56) k) ?_
        refine gs (mkF m 59 _ [(.int (116 : Int32)), (.int (1 : Int32)), (.ref b21), (.ref b21)]) (fun T A t k => XS.bipush A B.x rfl (B.d at_57) k) ?_
        refine g_stC B V23 (x' := (116 : Int32)) (by decide) ⟨by decide, by decide⟩ (i := 1) rfl (Nat.le_of_ble_eq_true rfl) at_59 (Safe.arv Wt24.1.alike V23 (by decide)) (by omega) (q := 60) rfl ?_
        intro h25 W25 A25
        refine g_wt (fun Wt26 => ?_)
        have z25 := W25.size
        have V25 : Arv Z h25 b21 k21 .char (35 : Int32) [(.int (104 : Int32)), (.int (116 : Int32)), (.int (0 : Int32)), (.int (0 : Int32)), (.int (0 : Int32)), (.int (0 : Int32)), (.int (0 : Int32)), (.int (0 : Int32)), (.int (0 : Int32)), (.int (0 : Int32)), (.int (0 : Int32)), (.int (0 : Int32)), (.int (0 : Int32)), (.int (0 : Int32)), (.int (0 : Int32)), (.int (0 : Int32)), (.int (0 : Int32)), (.int (0 : Int32)), (.int (0 : Int32)), (.int (0 : Int32)), (.int (0 : Int32)), (.int (0 : Int32)), (.int (0 : Int32)), (.int (0 : Int32)), (.int (0 : Int32)), (.int (0 : Int32)), (.int (0 : Int32)), (.int (0 : Int32)), (.int (0 : Int32)), (.int (0 : Int32)), (.int (0 : Int32)), (.int (0 : Int32)), (.int (0 : Int32)), (.int (0 : Int32)), (.int (0 : Int32))] (.int (0 : Int32)) := A25
        refine gs (mkF m 61 _ [(.ref b21), (.ref b21)]) (fun T A t k => XS.dup A B.x rfl (B.d at_60) rfl rfl k) ?_
        refine gs (mkF m 62 _ [(.int (2 : Int32)), (.ref b21), (.ref b21)]) (fun T A t k => XS.iconst A B.x rfl (B.d at_61) k) ?_
        refine gs (mkF m 64 _ [(.int (116 : Int32)), (.int (2 : Int32)), (.ref b21), (.ref b21)]) (fun T A t k => XS.bipush A B.x rfl (B.d at_62) k) ?_
        refine g_stC B V25 (x' := (116 : Int32)) (by decide) ⟨by decide, by decide⟩ (i := 2) rfl (Nat.le_of_ble_eq_true rfl) at_64 (Safe.arv Wt26.1.alike V25 (by decide)) (by omega) (q := 65) rfl ?_
        intro h27 W27 A27
        refine g_wt (fun Wt28 => ?_)
        have z27 := W27.size
        have V27 : Arv Z h27 b21 k21 .char (35 : Int32) [(.int (104 : Int32)), (.int (116 : Int32)), (.int (116 : Int32)), (.int (0 : Int32)), (.int (0 : Int32)), (.int (0 : Int32)), (.int (0 : Int32)), (.int (0 : Int32)), (.int (0 : Int32)), (.int (0 : Int32)), (.int (0 : Int32)), (.int (0 : Int32)), (.int (0 : Int32)), (.int (0 : Int32)), (.int (0 : Int32)), (.int (0 : Int32)), (.int (0 : Int32)), (.int (0 : Int32)), (.int (0 : Int32)), (.int (0 : Int32)), (.int (0 : Int32)), (.int (0 : Int32)), (.int (0 : Int32)), (.int (0 : Int32)), (.int (0 : Int32)), (.int (0 : Int32)), (.int (0 : Int32)), (.int (0 : Int32)), (.int (0 : Int32)), (.int (0 : Int32)), (.int (0 : Int32)), (.int (0 : Int32)), (.int (0 : Int32)), (.int (0 : Int32)), (.int (0 : Int32))] (.int (0 : Int32)) := A27
        refine gs (mkF m 66 _ [(.ref b21), (.ref b21)]) (fun T A t k => XS.dup A B.x rfl (B.d at_65) rfl rfl k) ?_
        refine gs (mkF m 67 _ [(.int (3 : Int32)), (.ref b21), (.ref b21)]) (fun T A t k => XS.iconst A B.x rfl (B.d at_66) k) ?_
        refine gs (mkF m 69 _ [(.int (112 : Int32)), (.int (3 : Int32)), (.ref b21), (.ref b21)]) (fun T A t k => XS.bipush A B.x rfl (B.d at_67) k) ?_
        refine g_stC B V27 (x' := (112 : Int32)) (by decide) ⟨by decide, by decide⟩ (i := 3) rfl (Nat.le_of_ble_eq_true rfl) at_69 (Safe.arv Wt28.1.alike V27 (by decide)) (by omega) (q := 70) rfl ?_
        intro h29 W29 A29
        refine g_wt (fun Wt30 => ?_)
        have z29 := W29.size
        have V29 : Arv Z h29 b21 k21 .char (35 : Int32) [(.int (104 : Int32)), (.int (116 : Int32)), (.int (116 : Int32)), (.int (112 : Int32)), (.int (0 : Int32)), (.int (0 : Int32)), (.int (0 : Int32)), (.int (0 : Int32)), (.int (0 : Int32)), (.int (0 : Int32)), (.int (0 : Int32)), (.int (0 : Int32)), (.int (0 : Int32)), (.int (0 : Int32)), (.int (0 : Int32)), (.int (0 : Int32)), (.int (0 : Int32)), (.int (0 : Int32)), (.int (0 : Int32)), (.int (0 : Int32)), (.int (0 : Int32)), (.int (0 : Int32)), (.int (0 : Int32)), (.int (0 : Int32)), (.int (0 : Int32)), (.int (0 : Int32)), (.int (0 : Int32)), (.int (0 : Int32)), (.int (0 : Int32)), (.int (0 : Int32)), (.int (0 : Int32)), (.int (0 : Int32)), (.int (0 : Int32)), (.int (0 : Int32)), (.int (0 : Int32))] (.int (0 : Int32)) := A29
        refine gs (mkF m 71 _ [(.ref b21), (.ref b21)]) (fun T A t k => XS.dup A B.x rfl (B.d at_70) rfl rfl k) ?_
        refine gs (mkF m 72 _ [(.int (4 : Int32)), (.ref b21), (.ref b21)]) (fun T A t k => XS.iconst A B.x rfl (B.d at_71) k) ?_
        refine gs (mkF m 74 _ [(.int (115 : Int32)), (.int (4 : Int32)), (.ref b21), (.ref b21)]) (fun T A t k => XS.bipush A B.x rfl (B.d at_72) k) ?_
        refine g_stC B V29 (x' := (115 : Int32)) (by decide) ⟨by decide, by decide⟩ (i := 4) rfl (Nat.le_of_ble_eq_true rfl) at_74 (Safe.arv Wt30.1.alike V29 (by decide)) (by omega) (q := 75) rfl ?_
        intro h31 W31 A31
        refine g_wt (fun Wt32 => ?_)
        have z31 := W31.size
        have V31 : Arv Z h31 b21 k21 .char (35 : Int32) [(.int (104 : Int32)), (.int (116 : Int32)), (.int (116 : Int32)), (.int (112 : Int32)), (.int (115 : Int32)), (.int (0 : Int32)), (.int (0 : Int32)), (.int (0 : Int32)), (.int (0 : Int32)), (.int (0 : Int32)), (.int (0 : Int32)), (.int (0 : Int32)), (.int (0 : Int32)), (.int (0 : Int32)), (.int (0 : Int32)), (.int (0 : Int32)), (.int (0 : Int32)), (.int (0 : Int32)), (.int (0 : Int32)), (.int (0 : Int32)), (.int (0 : Int32)), (.int (0 : Int32)), (.int (0 : Int32)), (.int (0 : Int32)), (.int (0 : Int32)), (.int (0 : Int32)), (.int (0 : Int32)), (.int (0 : Int32)), (.int (0 : Int32)), (.int (0 : Int32)), (.int (0 : Int32)), (.int (0 : Int32)), (.int (0 : Int32)), (.int (0 : Int32)), (.int (0 : Int32))] (.int (0 : Int32)) := A31
        refine gs (mkF m 76 _ [(.ref b21), (.ref b21)]) (fun T A t k => XS.dup A B.x rfl (B.d at_75) rfl rfl k) ?_
        refine gs (mkF m 77 _ [(.int (5 : Int32)), (.ref b21), (.ref b21)]) (fun T A t k => XS.iconst A B.x rfl (B.d at_76) k) ?_
        refine gs (mkF m 79 _ [(.int (58 : Int32)), (.int (5 : Int32)), (.ref b21), (.ref b21)]) (fun T A t k => XS.bipush A B.x rfl (B.d at_77) k) ?_
        refine g_stC B V31 (x' := (58 : Int32)) (by decide) ⟨by decide, by decide⟩ (i := 5) rfl (Nat.le_of_ble_eq_true rfl) at_79 (Safe.arv Wt32.1.alike V31 (by decide)) (by omega) (q := 80) rfl ?_
        intro h33 W33 A33
        refine g_wt (fun Wt34 => ?_)
        have z33 := W33.size
        have V33 : Arv Z h33 b21 k21 .char (35 : Int32) [(.int (104 : Int32)), (.int (116 : Int32)), (.int (116 : Int32)), (.int (112 : Int32)), (.int (115 : Int32)), (.int (58 : Int32)), (.int (0 : Int32)), (.int (0 : Int32)), (.int (0 : Int32)), (.int (0 : Int32)), (.int (0 : Int32)), (.int (0 : Int32)), (.int (0 : Int32)), (.int (0 : Int32)), (.int (0 : Int32)), (.int (0 : Int32)), (.int (0 : Int32)), (.int (0 : Int32)), (.int (0 : Int32)), (.int (0 : Int32)), (.int (0 : Int32)), (.int (0 : Int32)), (.int (0 : Int32)), (.int (0 : Int32)), (.int (0 : Int32)), (.int (0 : Int32)), (.int (0 : Int32)), (.int (0 : Int32)), (.int (0 : Int32)), (.int (0 : Int32)), (.int (0 : Int32)), (.int (0 : Int32)), (.int (0 : Int32)), (.int (0 : Int32)), (.int (0 : Int32))] (.int (0 : Int32)) := A33
        refine gs (mkF m 81 _ [(.ref b21), (.ref b21)]) (fun T A t k => XS.dup A B.x rfl (B.d at_80) rfl rfl k) ?_
        refine gs (mkF m 83 _ [(.int (6 : Int32)), (.ref b21), (.ref b21)]) (fun T A t k => XS.bipush A B.x rfl (B.d at_81) k) ?_
        refine gs (mkF m 85 _ [(.int (47 : Int32)), (.int (6 : Int32)), (.ref b21), (.ref b21)]) (fun T A t k => XS.bipush A B.x rfl (B.d at_83) k) ?_
        refine g_stC B V33 (x' := (47 : Int32)) (by decide) ⟨by decide, by decide⟩ (i := 6) rfl (Nat.le_of_ble_eq_true rfl) at_85 (Safe.arv Wt34.1.alike V33 (by decide)) (by omega) (q := 86) rfl ?_
        intro h35 W35 A35
        refine g_wt (fun Wt36 => ?_)
        have z35 := W35.size
        have V35 : Arv Z h35 b21 k21 .char (35 : Int32) [(.int (104 : Int32)), (.int (116 : Int32)), (.int (116 : Int32)), (.int (112 : Int32)), (.int (115 : Int32)), (.int (58 : Int32)), (.int (47 : Int32)), (.int (0 : Int32)), (.int (0 : Int32)), (.int (0 : Int32)), (.int (0 : Int32)), (.int (0 : Int32)), (.int (0 : Int32)), (.int (0 : Int32)), (.int (0 : Int32)), (.int (0 : Int32)), (.int (0 : Int32)), (.int (0 : Int32)), (.int (0 : Int32)), (.int (0 : Int32)), (.int (0 : Int32)), (.int (0 : Int32)), (.int (0 : Int32)), (.int (0 : Int32)), (.int (0 : Int32)), (.int (0 : Int32)), (.int (0 : Int32)), (.int (0 : Int32)), (.int (0 : Int32)), (.int (0 : Int32)), (.int (0 : Int32)), (.int (0 : Int32)), (.int (0 : Int32)), (.int (0 : Int32)), (.int (0 : Int32))] (.int (0 : Int32)) := A35
        refine gs (mkF m 87 _ [(.ref b21), (.ref b21)]) (fun T A t k => XS.dup A B.x rfl (B.d at_86) rfl rfl k) ?_
        refine gs (mkF m 89 _ [(.int (7 : Int32)), (.ref b21), (.ref b21)]) (fun T A t k => XS.bipush A B.x rfl (B.d at_87) k) ?_
        refine gs (mkF m 91 _ [(.int (47 : Int32)), (.int (7 : Int32)), (.ref b21), (.ref b21)]) (fun T A t k => XS.bipush A B.x rfl (B.d at_89) k) ?_
        refine g_stC B V35 (x' := (47 : Int32)) (by decide) ⟨by decide, by decide⟩ (i := 7) rfl (Nat.le_of_ble_eq_true rfl) at_91 (Safe.arv Wt36.1.alike V35 (by decide)) (by omega) (q := 92) rfl ?_
        intro h37 W37 A37
        refine g_wt (fun Wt38 => ?_)
        have z37 := W37.size
        have V37 : Arv Z h37 b21 k21 .char (35 : Int32) [(.int (104 : Int32)), (.int (116 : Int32)), (.int (116 : Int32)), (.int (112 : Int32)), (.int (115 : Int32)), (.int (58 : Int32)), (.int (47 : Int32)), (.int (47 : Int32)), (.int (0 : Int32)), (.int (0 : Int32)), (.int (0 : Int32)), (.int (0 : Int32)), (.int (0 : Int32)), (.int (0 : Int32)), (.int (0 : Int32)), (.int (0 : Int32)), (.int (0 : Int32)), (.int (0 : Int32)), (.int (0 : Int32)), (.int (0 : Int32)), (.int (0 : Int32)), (.int (0 : Int32)), (.int (0 : Int32)), (.int (0 : Int32)), (.int (0 : Int32)), (.int (0 : Int32)), (.int (0 : Int32)), (.int (0 : Int32)), (.int (0 : Int32)), (.int (0 : Int32)), (.int (0 : Int32)), (.int (0 : Int32)), (.int (0 : Int32)), (.int (0 : Int32)), (.int (0 : Int32))] (.int (0 : Int32)) := A37
        refine gs (mkF m 93 _ [(.ref b21), (.ref b21)]) (fun T A t k => XS.dup A B.x rfl (B.d at_92) rfl rfl k) ?_
        refine gs (mkF m 95 _ [(.int (8 : Int32)), (.ref b21), (.ref b21)]) (fun T A t k => XS.bipush A B.x rfl (B.d at_93) k) ?_
        refine gs (mkF m 97 _ [(.int (111 : Int32)), (.int (8 : Int32)), (.ref b21), (.ref b21)]) (fun T A t k => XS.bipush A B.x rfl (B.d at_95) k) ?_
        refine g_stC B V37 (x' := (111 : Int32)) (by decide) ⟨by decide, by decide⟩ (i := 8) rfl (Nat.le_of_ble_eq_true rfl) at_97 (Safe.arv Wt38.1.alike V37 (by decide)) (by omega) (q := 98) rfl ?_
        intro h39 W39 A39
        refine g_wt (fun Wt40 => ?_)
        have z39 := W39.size
        have V39 : Arv Z h39 b21 k21 .char (35 : Int32) [(.int (104 : Int32)), (.int (116 : Int32)), (.int (116 : Int32)), (.int (112 : Int32)), (.int (115 : Int32)), (.int (58 : Int32)), (.int (47 : Int32)), (.int (47 : Int32)), (.int (111 : Int32)), (.int (0 : Int32)), (.int (0 : Int32)), (.int (0 : Int32)), (.int (0 : Int32)), (.int (0 : Int32)), (.int (0 : Int32)), (.int (0 : Int32)), (.int (0 : Int32)), (.int (0 : Int32)), (.int (0 : Int32)), (.int (0 : Int32)), (.int (0 : Int32)), (.int (0 : Int32)), (.int (0 : Int32)), (.int (0 : Int32)), (.int (0 : Int32)), (.int (0 : Int32)), (.int (0 : Int32)), (.int (0 : Int32)), (.int (0 : Int32)), (.int (0 : Int32)), (.int (0 : Int32)), (.int (0 : Int32)), (.int (0 : Int32)), (.int (0 : Int32)), (.int (0 : Int32))] (.int (0 : Int32)) := A39
        refine gs (mkF m 99 _ [(.ref b21), (.ref b21)]) (fun T A t k => XS.dup A B.x rfl (B.d at_98) rfl rfl k) ?_
        refine gs (mkF m 101 _ [(.int (9 : Int32)), (.ref b21), (.ref b21)]) (fun T A t k => XS.bipush A B.x rfl (B.d at_99) k) ?_
        refine gs (mkF m 103 _ [(.int (99 : Int32)), (.int (9 : Int32)), (.ref b21), (.ref b21)]) (fun T A t k => XS.bipush A B.x rfl (B.d at_101) k) ?_
        refine g_stC B V39 (x' := (99 : Int32)) (by decide) ⟨by decide, by decide⟩ (i := 9) rfl (Nat.le_of_ble_eq_true rfl) at_103 (Safe.arv Wt40.1.alike V39 (by decide)) (by omega) (q := 104) rfl ?_
        intro h41 W41 A41
        refine g_wt (fun Wt42 => ?_)
        have z41 := W41.size
        have V41 : Arv Z h41 b21 k21 .char (35 : Int32) [(.int (104 : Int32)), (.int (116 : Int32)), (.int (116 : Int32)), (.int (112 : Int32)), (.int (115 : Int32)), (.int (58 : Int32)), (.int (47 : Int32)), (.int (47 : Int32)), (.int (111 : Int32)), (.int (99 : Int32)), (.int (0 : Int32)), (.int (0 : Int32)), (.int (0 : Int32)), (.int (0 : Int32)), (.int (0 : Int32)), (.int (0 : Int32)), (.int (0 : Int32)), (.int (0 : Int32)), (.int (0 : Int32)), (.int (0 : Int32)), (.int (0 : Int32)), (.int (0 : Int32)), (.int (0 : Int32)), (.int (0 : Int32)), (.int (0 : Int32)), (.int (0 : Int32)), (.int (0 : Int32)), (.int (0 : Int32)), (.int (0 : Int32)), (.int (0 : Int32)), (.int (0 : Int32)), (.int (0 : Int32)), (.int (0 : Int32)), (.int (0 : Int32)), (.int (0 : Int32))] (.int (0 : Int32)) := A41
        refine gs (mkF m 105 _ [(.ref b21), (.ref b21)]) (fun T A t k => XS.dup A B.x rfl (B.d at_104) rfl rfl k) ?_
        refine gs (mkF m 107 _ [(.int (10 : Int32)), (.ref b21), (.ref b21)]) (fun T A t k => XS.bipush A B.x rfl (B.d at_105) k) ?_
        refine gs (mkF m 109 _ [(.int (102 : Int32)), (.int (10 : Int32)), (.ref b21), (.ref b21)]) (fun T A t k => XS.bipush A B.x rfl (B.d at_107) k) ?_
        refine g_stC B V41 (x' := (102 : Int32)) (by decide) ⟨by decide, by decide⟩ (i := 10) rfl (Nat.le_of_ble_eq_true rfl) at_109 (Safe.arv Wt42.1.alike V41 (by decide)) (by omega) (q := 110) rfl ?_
        intro h43 W43 A43
        refine g_wt (fun Wt44 => ?_)
        have z43 := W43.size
        have V43 : Arv Z h43 b21 k21 .char (35 : Int32) [(.int (104 : Int32)), (.int (116 : Int32)), (.int (116 : Int32)), (.int (112 : Int32)), (.int (115 : Int32)), (.int (58 : Int32)), (.int (47 : Int32)), (.int (47 : Int32)), (.int (111 : Int32)), (.int (99 : Int32)), (.int (102 : Int32)), (.int (0 : Int32)), (.int (0 : Int32)), (.int (0 : Int32)), (.int (0 : Int32)), (.int (0 : Int32)), (.int (0 : Int32)), (.int (0 : Int32)), (.int (0 : Int32)), (.int (0 : Int32)), (.int (0 : Int32)), (.int (0 : Int32)), (.int (0 : Int32)), (.int (0 : Int32)), (.int (0 : Int32)), (.int (0 : Int32)), (.int (0 : Int32)), (.int (0 : Int32)), (.int (0 : Int32)), (.int (0 : Int32)), (.int (0 : Int32)), (.int (0 : Int32)), (.int (0 : Int32)), (.int (0 : Int32)), (.int (0 : Int32))] (.int (0 : Int32)) := A43
        refine gs (mkF m 111 _ [(.ref b21), (.ref b21)]) (fun T A t k => XS.dup A B.x rfl (B.d at_110) rfl rfl k) ?_
        refine gs (mkF m 113 _ [(.int (11 : Int32)), (.ref b21), (.ref b21)]) (fun T A t k => XS.bipush A B.x rfl (B.d at_111) k) ?_
        refine gs (mkF m 115 _ [(.int (108 : Int32)), (.int (11 : Int32)), (.ref b21), (.ref b21)]) (fun T A t k => XS.bipush A B.x rfl (B.d at_113) k) ?_
        refine g_stC B V43 (x' := (108 : Int32)) (by decide) ⟨by decide, by decide⟩ (i := 11) rfl (Nat.le_of_ble_eq_true rfl) at_115 (Safe.arv Wt44.1.alike V43 (by decide)) (by omega) (q := 116) rfl ?_
        intro h45 W45 A45
        refine g_wt (fun Wt46 => ?_)
        have z45 := W45.size
        have V45 : Arv Z h45 b21 k21 .char (35 : Int32) [(.int (104 : Int32)), (.int (116 : Int32)), (.int (116 : Int32)), (.int (112 : Int32)), (.int (115 : Int32)), (.int (58 : Int32)), (.int (47 : Int32)), (.int (47 : Int32)), (.int (111 : Int32)), (.int (99 : Int32)), (.int (102 : Int32)), (.int (108 : Int32)), (.int (0 : Int32)), (.int (0 : Int32)), (.int (0 : Int32)), (.int (0 : Int32)), (.int (0 : Int32)), (.int (0 : Int32)), (.int (0 : Int32)), (.int (0 : Int32)), (.int (0 : Int32)), (.int (0 : Int32)), (.int (0 : Int32)), (.int (0 : Int32)), (.int (0 : Int32)), (.int (0 : Int32)), (.int (0 : Int32)), (.int (0 : Int32)), (.int (0 : Int32)), (.int (0 : Int32)), (.int (0 : Int32)), (.int (0 : Int32)), (.int (0 : Int32)), (.int (0 : Int32)), (.int (0 : Int32))] (.int (0 : Int32)) := A45
        refine gs (mkF m 117 _ [(.ref b21), (.ref b21)]) (fun T A t k => XS.dup A B.x rfl (B.d at_116) rfl rfl k) ?_
        refine gs (mkF m 119 _ [(.int (12 : Int32)), (.ref b21), (.ref b21)]) (fun T A t k => XS.bipush A B.x rfl (B.d at_117) k) ?_
        refine gs (mkF m 121 _ [(.int (46 : Int32)), (.int (12 : Int32)), (.ref b21), (.ref b21)]) (fun T A t k => XS.bipush A B.x rfl (B.d at_119) k) ?_
        refine g_stC B V45 (x' := (46 : Int32)) (by decide) ⟨by decide, by decide⟩ (i := 12) rfl (Nat.le_of_ble_eq_true rfl) at_121 (Safe.arv Wt46.1.alike V45 (by decide)) (by omega) (q := 122) rfl ?_
        intro h47 W47 A47
        refine g_wt (fun Wt48 => ?_)
        have z47 := W47.size
        have V47 : Arv Z h47 b21 k21 .char (35 : Int32) [(.int (104 : Int32)), (.int (116 : Int32)), (.int (116 : Int32)), (.int (112 : Int32)), (.int (115 : Int32)), (.int (58 : Int32)), (.int (47 : Int32)), (.int (47 : Int32)), (.int (111 : Int32)), (.int (99 : Int32)), (.int (102 : Int32)), (.int (108 : Int32)), (.int (46 : Int32)), (.int (0 : Int32)), (.int (0 : Int32)), (.int (0 : Int32)), (.int (0 : Int32)), (.int (0 : Int32)), (.int (0 : Int32)), (.int (0 : Int32)), (.int (0 : Int32)), (.int (0 : Int32)), (.int (0 : Int32)), (.int (0 : Int32)), (.int (0 : Int32)), (.int (0 : Int32)), (.int (0 : Int32)), (.int (0 : Int32)), (.int (0 : Int32)), (.int (0 : Int32)), (.int (0 : Int32)), (.int (0 : Int32)), (.int (0 : Int32)), (.int (0 : Int32)), (.int (0 : Int32))] (.int (0 : Int32)) := A47
        refine gs (mkF m 123 _ [(.ref b21), (.ref b21)]) (fun T A t k => XS.dup A B.x rfl (B.d at_122) rfl rfl k) ?_
        refine gs (mkF m 125 _ [(.int (13 : Int32)), (.ref b21), (.ref b21)]) (fun T A t k => XS.bipush A B.x rfl (B.d at_123) k) ?_
        refine gs (mkF m 127 _ [(.int (105 : Int32)), (.int (13 : Int32)), (.ref b21), (.ref b21)]) (fun T A t k => XS.bipush A B.x rfl (B.d at_125) k) ?_
        refine g_stC B V47 (x' := (105 : Int32)) (by decide) ⟨by decide, by decide⟩ (i := 13) rfl (Nat.le_of_ble_eq_true rfl) at_127 (Safe.arv Wt48.1.alike V47 (by decide)) (by omega) (q := 128) rfl ?_
        intro h49 W49 A49
        refine g_wt (fun Wt50 => ?_)
        have z49 := W49.size
        have V49 : Arv Z h49 b21 k21 .char (35 : Int32) [(.int (104 : Int32)), (.int (116 : Int32)), (.int (116 : Int32)), (.int (112 : Int32)), (.int (115 : Int32)), (.int (58 : Int32)), (.int (47 : Int32)), (.int (47 : Int32)), (.int (111 : Int32)), (.int (99 : Int32)), (.int (102 : Int32)), (.int (108 : Int32)), (.int (46 : Int32)), (.int (105 : Int32)), (.int (0 : Int32)), (.int (0 : Int32)), (.int (0 : Int32)), (.int (0 : Int32)), (.int (0 : Int32)), (.int (0 : Int32)), (.int (0 : Int32)), (.int (0 : Int32)), (.int (0 : Int32)), (.int (0 : Int32)), (.int (0 : Int32)), (.int (0 : Int32)), (.int (0 : Int32)), (.int (0 : Int32)), (.int (0 : Int32)), (.int (0 : Int32)), (.int (0 : Int32)), (.int (0 : Int32)), (.int (0 : Int32)), (.int (0 : Int32)), (.int (0 : Int32))] (.int (0 : Int32)) := A49
        refine gs (mkF m 129 _ [(.ref b21), (.ref b21)]) (fun T A t k => XS.dup A B.x rfl (B.d at_128) rfl rfl k) ?_
        refine gs (mkF m 131 _ [(.int (14 : Int32)), (.ref b21), (.ref b21)]) (fun T A t k => XS.bipush A B.x rfl (B.d at_129) k) ?_
        refine gs (mkF m 133 _ [(.int (111 : Int32)), (.int (14 : Int32)), (.ref b21), (.ref b21)]) (fun T A t k => XS.bipush A B.x rfl (B.d at_131) k) ?_
        refine g_stC B V49 (x' := (111 : Int32)) (by decide) ⟨by decide, by decide⟩ (i := 14) rfl (Nat.le_of_ble_eq_true rfl) at_133 (Safe.arv Wt50.1.alike V49 (by decide)) (by omega) (q := 134) rfl ?_
        intro h51 W51 A51
        refine g_wt (fun Wt52 => ?_)
        have z51 := W51.size
        have V51 : Arv Z h51 b21 k21 .char (35 : Int32) [(.int (104 : Int32)), (.int (116 : Int32)), (.int (116 : Int32)), (.int (112 : Int32)), (.int (115 : Int32)), (.int (58 : Int32)), (.int (47 : Int32)), (.int (47 : Int32)), (.int (111 : Int32)), (.int (99 : Int32)), (.int (102 : Int32)), (.int (108 : Int32)), (.int (46 : Int32)), (.int (105 : Int32)), (.int (111 : Int32)), (.int (0 : Int32)), (.int (0 : Int32)), (.int (0 : Int32)), (.int (0 : Int32)), (.int (0 : Int32)), (.int (0 : Int32)), (.int (0 : Int32)), (.int (0 : Int32)), (.int (0 : Int32)), (.int (0 : Int32)), (.int (0 : Int32)), (.int (0 : Int32)), (.int (0 : Int32)), (.int (0 : Int32)), (.int (0 : Int32)), (.int (0 : Int32)), (.int (0 : Int32)), (.int (0 : Int32)), (.int (0 : Int32)), (.int (0 : Int32))] (.int (0 : Int32)) := A51
        refine gs (mkF m 135 _ [(.ref b21), (.ref b21)]) (fun T A t k => XS.dup A B.x rfl (B.d at_134) rfl rfl k) ?_
        refine gs (mkF m 137 _ [(.int (15 : Int32)), (.ref b21), (.ref b21)]) (fun T A t k => XS.bipush A B.x rfl (B.d at_135) k) ?_
        refine gs (mkF m 139 _ [(.int (47 : Int32)), (.int (15 : Int32)), (.ref b21), (.ref b21)]) (fun T A t k => XS.bipush A B.x rfl (B.d at_137) k) ?_
        refine g_stC B V51 (x' := (47 : Int32)) (by decide) ⟨by decide, by decide⟩ (i := 15) rfl (Nat.le_of_ble_eq_true rfl) at_139 (Safe.arv Wt52.1.alike V51 (by decide)) (by omega) (q := 140) rfl ?_
        intro h53 W53 A53
        refine g_wt (fun Wt54 => ?_)
        have z53 := W53.size
        have V53 : Arv Z h53 b21 k21 .char (35 : Int32) [(.int (104 : Int32)), (.int (116 : Int32)), (.int (116 : Int32)), (.int (112 : Int32)), (.int (115 : Int32)), (.int (58 : Int32)), (.int (47 : Int32)), (.int (47 : Int32)), (.int (111 : Int32)), (.int (99 : Int32)), (.int (102 : Int32)), (.int (108 : Int32)), (.int (46 : Int32)), (.int (105 : Int32)), (.int (111 : Int32)), (.int (47 : Int32)), (.int (0 : Int32)), (.int (0 : Int32)), (.int (0 : Int32)), (.int (0 : Int32)), (.int (0 : Int32)), (.int (0 : Int32)), (.int (0 : Int32)), (.int (0 : Int32)), (.int (0 : Int32)), (.int (0 : Int32)), (.int (0 : Int32)), (.int (0 : Int32)), (.int (0 : Int32)), (.int (0 : Int32)), (.int (0 : Int32)), (.int (0 : Int32)), (.int (0 : Int32)), (.int (0 : Int32)), (.int (0 : Int32))] (.int (0 : Int32)) := A53
        refine gs (mkF m 141 _ [(.ref b21), (.ref b21)]) (fun T A t k => XS.dup A B.x rfl (B.d at_140) rfl rfl k) ?_
        refine gs (mkF m 143 _ [(.int (16 : Int32)), (.ref b21), (.ref b21)]) (fun T A t k => XS.bipush A B.x rfl (B.d at_141) k) ?_
        refine gs (mkF m 145 _ [(.int (49 : Int32)), (.int (16 : Int32)), (.ref b21), (.ref b21)]) (fun T A t k => XS.bipush A B.x rfl (B.d at_143) k) ?_
        refine g_stC B V53 (x' := (49 : Int32)) (by decide) ⟨by decide, by decide⟩ (i := 16) rfl (Nat.le_of_ble_eq_true rfl) at_145 (Safe.arv Wt54.1.alike V53 (by decide)) (by omega) (q := 146) rfl ?_
        intro h55 W55 A55
        refine g_wt (fun Wt56 => ?_)
        have z55 := W55.size
        have V55 : Arv Z h55 b21 k21 .char (35 : Int32) [(.int (104 : Int32)), (.int (116 : Int32)), (.int (116 : Int32)), (.int (112 : Int32)), (.int (115 : Int32)), (.int (58 : Int32)), (.int (47 : Int32)), (.int (47 : Int32)), (.int (111 : Int32)), (.int (99 : Int32)), (.int (102 : Int32)), (.int (108 : Int32)), (.int (46 : Int32)), (.int (105 : Int32)), (.int (111 : Int32)), (.int (47 : Int32)), (.int (49 : Int32)), (.int (0 : Int32)), (.int (0 : Int32)), (.int (0 : Int32)), (.int (0 : Int32)), (.int (0 : Int32)), (.int (0 : Int32)), (.int (0 : Int32)), (.int (0 : Int32)), (.int (0 : Int32)), (.int (0 : Int32)), (.int (0 : Int32)), (.int (0 : Int32)), (.int (0 : Int32)), (.int (0 : Int32)), (.int (0 : Int32)), (.int (0 : Int32)), (.int (0 : Int32)), (.int (0 : Int32))] (.int (0 : Int32)) := A55
        refine gs (mkF m 147 _ [(.ref b21), (.ref b21)]) (fun T A t k => XS.dup A B.x rfl (B.d at_146) rfl rfl k) ?_
        refine gs (mkF m 149 _ [(.int (17 : Int32)), (.ref b21), (.ref b21)]) (fun T A t k => XS.bipush A B.x rfl (B.d at_147) k) ?_
        refine gs (mkF m 151 _ [(.int (46 : Int32)), (.int (17 : Int32)), (.ref b21), (.ref b21)]) (fun T A t k => XS.bipush A B.x rfl (B.d at_149) k) ?_
        refine g_stC B V55 (x' := (46 : Int32)) (by decide) ⟨by decide, by decide⟩ (i := 17) rfl (Nat.le_of_ble_eq_true rfl) at_151 (Safe.arv Wt56.1.alike V55 (by decide)) (by omega) (q := 152) rfl ?_
        intro h57 W57 A57
        refine g_wt (fun Wt58 => ?_)
        have z57 := W57.size
        have V57 : Arv Z h57 b21 k21 .char (35 : Int32) [(.int (104 : Int32)), (.int (116 : Int32)), (.int (116 : Int32)), (.int (112 : Int32)), (.int (115 : Int32)), (.int (58 : Int32)), (.int (47 : Int32)), (.int (47 : Int32)), (.int (111 : Int32)), (.int (99 : Int32)), (.int (102 : Int32)), (.int (108 : Int32)), (.int (46 : Int32)), (.int (105 : Int32)), (.int (111 : Int32)), (.int (47 : Int32)), (.int (49 : Int32)), (.int (46 : Int32)), (.int (0 : Int32)), (.int (0 : Int32)), (.int (0 : Int32)), (.int (0 : Int32)), (.int (0 : Int32)), (.int (0 : Int32)), (.int (0 : Int32)), (.int (0 : Int32)), (.int (0 : Int32)), (.int (0 : Int32)), (.int (0 : Int32)), (.int (0 : Int32)), (.int (0 : Int32)), (.int (0 : Int32)), (.int (0 : Int32)), (.int (0 : Int32)), (.int (0 : Int32))] (.int (0 : Int32)) := A57
        refine gs (mkF m 153 _ [(.ref b21), (.ref b21)]) (fun T A t k => XS.dup A B.x rfl (B.d at_152) rfl rfl k) ?_
        refine gs (mkF m 155 _ [(.int (18 : Int32)), (.ref b21), (.ref b21)]) (fun T A t k => XS.bipush A B.x rfl (B.d at_153) k) ?_
        refine gs (mkF m 157 _ [(.int bs), (.int (18 : Int32)), (.ref b21), (.ref b21)]) (fun T A t k => XS.iload A B.x rfl (B.d at_155) rfl k) ?_
        refine g_stC B V57 (x' := bs) (nar8 hb8) ⟨by decide, by decide⟩ (i := 18) rfl (Nat.le_of_ble_eq_true rfl) at_157 (Safe.arv Wt58.1.alike V57 (by decide)) (by omega) (q := 158) rfl ?_
        intro h59 W59 A59
        refine g_wt (fun Wt60 => ?_)
        have z59 := W59.size
        have V59 : Arv Z h59 b21 k21 .char (35 : Int32) [(.int (104 : Int32)), (.int (116 : Int32)), (.int (116 : Int32)), (.int (112 : Int32)), (.int (115 : Int32)), (.int (58 : Int32)), (.int (47 : Int32)), (.int (47 : Int32)), (.int (111 : Int32)), (.int (99 : Int32)), (.int (102 : Int32)), (.int (108 : Int32)), (.int (46 : Int32)), (.int (105 : Int32)), (.int (111 : Int32)), (.int (47 : Int32)), (.int (49 : Int32)), (.int (46 : Int32)), (.int bs), (.int (0 : Int32)), (.int (0 : Int32)), (.int (0 : Int32)), (.int (0 : Int32)), (.int (0 : Int32)), (.int (0 : Int32)), (.int (0 : Int32)), (.int (0 : Int32)), (.int (0 : Int32)), (.int (0 : Int32)), (.int (0 : Int32)), (.int (0 : Int32)), (.int (0 : Int32)), (.int (0 : Int32)), (.int (0 : Int32)), (.int (0 : Int32))] (.int (0 : Int32)) := A59
        refine gs (mkF m 159 _ [(.ref b21), (.ref b21)]) (fun T A t k => XS.dup A B.x rfl (B.d at_158) rfl rfl k) ?_
        refine gs (mkF m 161 _ [(.int (19 : Int32)), (.ref b21), (.ref b21)]) (fun T A t k => XS.bipush A B.x rfl (B.d at_159) k) ?_
        refine gs (mkF m 163 _ [(.int (47 : Int32)), (.int (19 : Int32)), (.ref b21), (.ref b21)]) (fun T A t k => XS.bipush A B.x rfl (B.d at_161) k) ?_
        refine g_stC B V59 (x' := (47 : Int32)) (by decide) ⟨by decide, by decide⟩ (i := 19) rfl (Nat.le_of_ble_eq_true rfl) at_163 (Safe.arv Wt60.1.alike V59 (by decide)) (by omega) (q := 164) rfl ?_
        intro h61 W61 A61
        refine g_wt (fun Wt62 => ?_)
        have z61 := W61.size
        have V61 : Arv Z h61 b21 k21 .char (35 : Int32) [(.int (104 : Int32)), (.int (116 : Int32)), (.int (116 : Int32)), (.int (112 : Int32)), (.int (115 : Int32)), (.int (58 : Int32)), (.int (47 : Int32)), (.int (47 : Int32)), (.int (111 : Int32)), (.int (99 : Int32)), (.int (102 : Int32)), (.int (108 : Int32)), (.int (46 : Int32)), (.int (105 : Int32)), (.int (111 : Int32)), (.int (47 : Int32)), (.int (49 : Int32)), (.int (46 : Int32)), (.int bs), (.int (47 : Int32)), (.int (0 : Int32)), (.int (0 : Int32)), (.int (0 : Int32)), (.int (0 : Int32)), (.int (0 : Int32)), (.int (0 : Int32)), (.int (0 : Int32)), (.int (0 : Int32)), (.int (0 : Int32)), (.int (0 : Int32)), (.int (0 : Int32)), (.int (0 : Int32)), (.int (0 : Int32)), (.int (0 : Int32)), (.int (0 : Int32))] (.int (0 : Int32)) := A61
        refine gs (mkF m 165 _ [(.ref b21), (.ref b21)]) (fun T A t k => XS.dup A B.x rfl (B.d at_164) rfl rfl k) ?_
        refine gs (mkF m 167 _ [(.int (20 : Int32)), (.ref b21), (.ref b21)]) (fun T A t k => XS.bipush A B.x rfl (B.d at_165) k) ?_
        refine gs (mkF m 169 _ [(.int (115 : Int32)), (.int (20 : Int32)), (.ref b21), (.ref b21)]) (fun T A t k => XS.bipush A B.x rfl (B.d at_167) k) ?_
        refine g_stC B V61 (x' := (115 : Int32)) (by decide) ⟨by decide, by decide⟩ (i := 20) rfl (Nat.le_of_ble_eq_true rfl) at_169 (Safe.arv Wt62.1.alike V61 (by decide)) (by omega) (q := 170) rfl ?_
        intro h63 W63 A63
        refine g_wt (fun Wt64 => ?_)
        have z63 := W63.size
        have V63 : Arv Z h63 b21 k21 .char (35 : Int32) [(.int (104 : Int32)), (.int (116 : Int32)), (.int (116 : Int32)), (.int (112 : Int32)), (.int (115 : Int32)), (.int (58 : Int32)), (.int (47 : Int32)), (.int (47 : Int32)), (.int (111 : Int32)), (.int (99 : Int32)), (.int (102 : Int32)), (.int (108 : Int32)), (.int (46 : Int32)), (.int (105 : Int32)), (.int (111 : Int32)), (.int (47 : Int32)), (.int (49 : Int32)), (.int (46 : Int32)), (.int bs), (.int (47 : Int32)), (.int (115 : Int32)), (.int (0 : Int32)), (.int (0 : Int32)), (.int (0 : Int32)), (.int (0 : Int32)), (.int (0 : Int32)), (.int (0 : Int32)), (.int (0 : Int32)), (.int (0 : Int32)), (.int (0 : Int32)), (.int (0 : Int32)), (.int (0 : Int32)), (.int (0 : Int32)), (.int (0 : Int32)), (.int (0 : Int32))] (.int (0 : Int32)) := A63
        refine gs (mkF m 171 _ [(.ref b21), (.ref b21)]) (fun T A t k => XS.dup A B.x rfl (B.d at_170) rfl rfl k) ?_
        refine gs (mkF m 173 _ [(.int (21 : Int32)), (.ref b21), (.ref b21)]) (fun T A t k => XS.bipush A B.x rfl (B.d at_171) k) ?_
        refine gs (mkF m 175 _ [(.int (112 : Int32)), (.int (21 : Int32)), (.ref b21), (.ref b21)]) (fun T A t k => XS.bipush A B.x rfl (B.d at_173) k) ?_
        refine g_stC B V63 (x' := (112 : Int32)) (by decide) ⟨by decide, by decide⟩ (i := 21) rfl (Nat.le_of_ble_eq_true rfl) at_175 (Safe.arv Wt64.1.alike V63 (by decide)) (by omega) (q := 176) rfl ?_
        intro h65 W65 A65
        refine g_wt (fun Wt66 => ?_)
        have z65 := W65.size
        have V65 : Arv Z h65 b21 k21 .char (35 : Int32) [(.int (104 : Int32)), (.int (116 : Int32)), (.int (116 : Int32)), (.int (112 : Int32)), (.int (115 : Int32)), (.int (58 : Int32)), (.int (47 : Int32)), (.int (47 : Int32)), (.int (111 : Int32)), (.int (99 : Int32)), (.int (102 : Int32)), (.int (108 : Int32)), (.int (46 : Int32)), (.int (105 : Int32)), (.int (111 : Int32)), (.int (47 : Int32)), (.int (49 : Int32)), (.int (46 : Int32)), (.int bs), (.int (47 : Int32)), (.int (115 : Int32)), (.int (112 : Int32)), (.int (0 : Int32)), (.int (0 : Int32)), (.int (0 : Int32)), (.int (0 : Int32)), (.int (0 : Int32)), (.int (0 : Int32)), (.int (0 : Int32)), (.int (0 : Int32)), (.int (0 : Int32)), (.int (0 : Int32)), (.int (0 : Int32)), (.int (0 : Int32)), (.int (0 : Int32))] (.int (0 : Int32)) := A65
        refine gs (mkF m 177 _ [(.ref b21), (.ref b21)]) (fun T A t k => XS.dup A B.x rfl (B.d at_176) rfl rfl k) ?_
        refine gs (mkF m 179 _ [(.int (22 : Int32)), (.ref b21), (.ref b21)]) (fun T A t k => XS.bipush A B.x rfl (B.d at_177) k) ?_
        refine gs (mkF m 181 _ [(.int (101 : Int32)), (.int (22 : Int32)), (.ref b21), (.ref b21)]) (fun T A t k => XS.bipush A B.x rfl (B.d at_179) k) ?_
        refine g_stC B V65 (x' := (101 : Int32)) (by decide) ⟨by decide, by decide⟩ (i := 22) rfl (Nat.le_of_ble_eq_true rfl) at_181 (Safe.arv Wt66.1.alike V65 (by decide)) (by omega) (q := 182) rfl ?_
        intro h67 W67 A67
        refine g_wt (fun Wt68 => ?_)
        have z67 := W67.size
        have V67 : Arv Z h67 b21 k21 .char (35 : Int32) [(.int (104 : Int32)), (.int (116 : Int32)), (.int (116 : Int32)), (.int (112 : Int32)), (.int (115 : Int32)), (.int (58 : Int32)), (.int (47 : Int32)), (.int (47 : Int32)), (.int (111 : Int32)), (.int (99 : Int32)), (.int (102 : Int32)), (.int (108 : Int32)), (.int (46 : Int32)), (.int (105 : Int32)), (.int (111 : Int32)), (.int (47 : Int32)), (.int (49 : Int32)), (.int (46 : Int32)), (.int bs), (.int (47 : Int32)), (.int (115 : Int32)), (.int (112 : Int32)), (.int (101 : Int32)), (.int (0 : Int32)), (.int (0 : Int32)), (.int (0 : Int32)), (.int (0 : Int32)), (.int (0 : Int32)), (.int (0 : Int32)), (.int (0 : Int32)), (.int (0 : Int32)), (.int (0 : Int32)), (.int (0 : Int32)), (.int (0 : Int32)), (.int (0 : Int32))] (.int (0 : Int32)) := A67
        refine gs (mkF m 183 _ [(.ref b21), (.ref b21)]) (fun T A t k => XS.dup A B.x rfl (B.d at_182) rfl rfl k) ?_
        refine gs (mkF m 185 _ [(.int (23 : Int32)), (.ref b21), (.ref b21)]) (fun T A t k => XS.bipush A B.x rfl (B.d at_183) k) ?_
        refine gs (mkF m 187 _ [(.int (99 : Int32)), (.int (23 : Int32)), (.ref b21), (.ref b21)]) (fun T A t k => XS.bipush A B.x rfl (B.d at_185) k) ?_
        refine g_stC B V67 (x' := (99 : Int32)) (by decide) ⟨by decide, by decide⟩ (i := 23) rfl (Nat.le_of_ble_eq_true rfl) at_187 (Safe.arv Wt68.1.alike V67 (by decide)) (by omega) (q := 188) rfl ?_
        intro h69 W69 A69
        refine g_wt (fun Wt70 => ?_)
        have z69 := W69.size
        have V69 : Arv Z h69 b21 k21 .char (35 : Int32) [(.int (104 : Int32)), (.int (116 : Int32)), (.int (116 : Int32)), (.int (112 : Int32)), (.int (115 : Int32)), (.int (58 : Int32)), (.int (47 : Int32)), (.int (47 : Int32)), (.int (111 : Int32)), (.int (99 : Int32)), (.int (102 : Int32)), (.int (108 : Int32)), (.int (46 : Int32)), (.int (105 : Int32)), (.int (111 : Int32)), (.int (47 : Int32)), (.int (49 : Int32)), (.int (46 : Int32)), (.int bs), (.int (47 : Int32)), (.int (115 : Int32)), (.int (112 : Int32)), (.int (101 : Int32)), (.int (99 : Int32)), (.int (0 : Int32)), (.int (0 : Int32)), (.int (0 : Int32)), (.int (0 : Int32)), (.int (0 : Int32)), (.int (0 : Int32)), (.int (0 : Int32)), (.int (0 : Int32)), (.int (0 : Int32)), (.int (0 : Int32)), (.int (0 : Int32))] (.int (0 : Int32)) := A69
        refine gs (mkF m 189 _ [(.ref b21), (.ref b21)]) (fun T A t k => XS.dup A B.x rfl (B.d at_188) rfl rfl k) ?_
        refine gs (mkF m 191 _ [(.int (24 : Int32)), (.ref b21), (.ref b21)]) (fun T A t k => XS.bipush A B.x rfl (B.d at_189) k) ?_
        refine gs (mkF m 193 _ [(.int (47 : Int32)), (.int (24 : Int32)), (.ref b21), (.ref b21)]) (fun T A t k => XS.bipush A B.x rfl (B.d at_191) k) ?_
        refine g_stC B V69 (x' := (47 : Int32)) (by decide) ⟨by decide, by decide⟩ (i := 24) rfl (Nat.le_of_ble_eq_true rfl) at_193 (Safe.arv Wt70.1.alike V69 (by decide)) (by omega) (q := 194) rfl ?_
        intro h71 W71 A71
        refine g_wt (fun Wt72 => ?_)
        have z71 := W71.size
        have V71 : Arv Z h71 b21 k21 .char (35 : Int32) [(.int (104 : Int32)), (.int (116 : Int32)), (.int (116 : Int32)), (.int (112 : Int32)), (.int (115 : Int32)), (.int (58 : Int32)), (.int (47 : Int32)), (.int (47 : Int32)), (.int (111 : Int32)), (.int (99 : Int32)), (.int (102 : Int32)), (.int (108 : Int32)), (.int (46 : Int32)), (.int (105 : Int32)), (.int (111 : Int32)), (.int (47 : Int32)), (.int (49 : Int32)), (.int (46 : Int32)), (.int bs), (.int (47 : Int32)), (.int (115 : Int32)), (.int (112 : Int32)), (.int (101 : Int32)), (.int (99 : Int32)), (.int (47 : Int32)), (.int (0 : Int32)), (.int (0 : Int32)), (.int (0 : Int32)), (.int (0 : Int32)), (.int (0 : Int32)), (.int (0 : Int32)), (.int (0 : Int32)), (.int (0 : Int32)), (.int (0 : Int32)), (.int (0 : Int32))] (.int (0 : Int32)) := A71
        refine gs (mkF m 195 _ [(.ref b21), (.ref b21)]) (fun T A t k => XS.dup A B.x rfl (B.d at_194) rfl rfl k) ?_
        refine gs (mkF m 197 _ [(.int (25 : Int32)), (.ref b21), (.ref b21)]) (fun T A t k => XS.bipush A B.x rfl (B.d at_195) k) ?_
        refine gs (mkF m 199 _ [(.int (35 : Int32)), (.int (25 : Int32)), (.ref b21), (.ref b21)]) (fun T A t k => XS.bipush A B.x rfl (B.d at_197) k) ?_
        refine g_stC B V71 (x' := (35 : Int32)) (by decide) ⟨by decide, by decide⟩ (i := 25) rfl (Nat.le_of_ble_eq_true rfl) at_199 (Safe.arv Wt72.1.alike V71 (by decide)) (by omega) (q := 200) rfl ?_
        intro h73 W73 A73
        refine g_wt (fun Wt74 => ?_)
        have z73 := W73.size
        have V73 : Arv Z h73 b21 k21 .char (35 : Int32) [(.int (104 : Int32)), (.int (116 : Int32)), (.int (116 : Int32)), (.int (112 : Int32)), (.int (115 : Int32)), (.int (58 : Int32)), (.int (47 : Int32)), (.int (47 : Int32)), (.int (111 : Int32)), (.int (99 : Int32)), (.int (102 : Int32)), (.int (108 : Int32)), (.int (46 : Int32)), (.int (105 : Int32)), (.int (111 : Int32)), (.int (47 : Int32)), (.int (49 : Int32)), (.int (46 : Int32)), (.int bs), (.int (47 : Int32)), (.int (115 : Int32)), (.int (112 : Int32)), (.int (101 : Int32)), (.int (99 : Int32)), (.int (47 : Int32)), (.int (35 : Int32)), (.int (0 : Int32)), (.int (0 : Int32)), (.int (0 : Int32)), (.int (0 : Int32)), (.int (0 : Int32)), (.int (0 : Int32)), (.int (0 : Int32)), (.int (0 : Int32)), (.int (0 : Int32))] (.int (0 : Int32)) := A73
        refine gs (mkF m 201 _ [(.ref b21), (.ref b21)]) (fun T A t k => XS.dup A B.x rfl (B.d at_200) rfl rfl k) ?_
        refine gs (mkF m 203 _ [(.int (26 : Int32)), (.ref b21), (.ref b21)]) (fun T A t k => XS.bipush A B.x rfl (B.d at_201) k) ?_
        refine gs (mkF m 205 _ [(.int (105 : Int32)), (.int (26 : Int32)), (.ref b21), (.ref b21)]) (fun T A t k => XS.bipush A B.x rfl (B.d at_203) k) ?_
        refine g_stC B V73 (x' := (105 : Int32)) (by decide) ⟨by decide, by decide⟩ (i := 26) rfl (Nat.le_of_ble_eq_true rfl) at_205 (Safe.arv Wt74.1.alike V73 (by decide)) (by omega) (q := 206) rfl ?_
        intro h75 W75 A75
        refine g_wt (fun Wt76 => ?_)
        have z75 := W75.size
        have V75 : Arv Z h75 b21 k21 .char (35 : Int32) [(.int (104 : Int32)), (.int (116 : Int32)), (.int (116 : Int32)), (.int (112 : Int32)), (.int (115 : Int32)), (.int (58 : Int32)), (.int (47 : Int32)), (.int (47 : Int32)), (.int (111 : Int32)), (.int (99 : Int32)), (.int (102 : Int32)), (.int (108 : Int32)), (.int (46 : Int32)), (.int (105 : Int32)), (.int (111 : Int32)), (.int (47 : Int32)), (.int (49 : Int32)), (.int (46 : Int32)), (.int bs), (.int (47 : Int32)), (.int (115 : Int32)), (.int (112 : Int32)), (.int (101 : Int32)), (.int (99 : Int32)), (.int (47 : Int32)), (.int (35 : Int32)), (.int (105 : Int32)), (.int (0 : Int32)), (.int (0 : Int32)), (.int (0 : Int32)), (.int (0 : Int32)), (.int (0 : Int32)), (.int (0 : Int32)), (.int (0 : Int32)), (.int (0 : Int32))] (.int (0 : Int32)) := A75
        refine gs (mkF m 207 _ [(.ref b21), (.ref b21)]) (fun T A t k => XS.dup A B.x rfl (B.d at_206) rfl rfl k) ?_
        refine gs (mkF m 209 _ [(.int (27 : Int32)), (.ref b21), (.ref b21)]) (fun T A t k => XS.bipush A B.x rfl (B.d at_207) k) ?_
        refine gs (mkF m 211 _ [(.int (110 : Int32)), (.int (27 : Int32)), (.ref b21), (.ref b21)]) (fun T A t k => XS.bipush A B.x rfl (B.d at_209) k) ?_
        refine g_stC B V75 (x' := (110 : Int32)) (by decide) ⟨by decide, by decide⟩ (i := 27) rfl (Nat.le_of_ble_eq_true rfl) at_211 (Safe.arv Wt76.1.alike V75 (by decide)) (by omega) (q := 212) rfl ?_
        intro h77 W77 A77
        refine g_wt (fun Wt78 => ?_)
        have z77 := W77.size
        have V77 : Arv Z h77 b21 k21 .char (35 : Int32) [(.int (104 : Int32)), (.int (116 : Int32)), (.int (116 : Int32)), (.int (112 : Int32)), (.int (115 : Int32)), (.int (58 : Int32)), (.int (47 : Int32)), (.int (47 : Int32)), (.int (111 : Int32)), (.int (99 : Int32)), (.int (102 : Int32)), (.int (108 : Int32)), (.int (46 : Int32)), (.int (105 : Int32)), (.int (111 : Int32)), (.int (47 : Int32)), (.int (49 : Int32)), (.int (46 : Int32)), (.int bs), (.int (47 : Int32)), (.int (115 : Int32)), (.int (112 : Int32)), (.int (101 : Int32)), (.int (99 : Int32)), (.int (47 : Int32)), (.int (35 : Int32)), (.int (105 : Int32)), (.int (110 : Int32)), (.int (0 : Int32)), (.int (0 : Int32)), (.int (0 : Int32)), (.int (0 : Int32)), (.int (0 : Int32)), (.int (0 : Int32)), (.int (0 : Int32))] (.int (0 : Int32)) := A77
        refine gs (mkF m 213 _ [(.ref b21), (.ref b21)]) (fun T A t k => XS.dup A B.x rfl (B.d at_212) rfl rfl k) ?_
        refine gs (mkF m 215 _ [(.int (28 : Int32)), (.ref b21), (.ref b21)]) (fun T A t k => XS.bipush A B.x rfl (B.d at_213) k) ?_
        refine gs (mkF m 217 _ [(.int (118 : Int32)), (.int (28 : Int32)), (.ref b21), (.ref b21)]) (fun T A t k => XS.bipush A B.x rfl (B.d at_215) k) ?_
        refine g_stC B V77 (x' := (118 : Int32)) (by decide) ⟨by decide, by decide⟩ (i := 28) rfl (Nat.le_of_ble_eq_true rfl) at_217 (Safe.arv Wt78.1.alike V77 (by decide)) (by omega) (q := 218) rfl ?_
        intro h79 W79 A79
        refine g_wt (fun Wt80 => ?_)
        have z79 := W79.size
        have V79 : Arv Z h79 b21 k21 .char (35 : Int32) [(.int (104 : Int32)), (.int (116 : Int32)), (.int (116 : Int32)), (.int (112 : Int32)), (.int (115 : Int32)), (.int (58 : Int32)), (.int (47 : Int32)), (.int (47 : Int32)), (.int (111 : Int32)), (.int (99 : Int32)), (.int (102 : Int32)), (.int (108 : Int32)), (.int (46 : Int32)), (.int (105 : Int32)), (.int (111 : Int32)), (.int (47 : Int32)), (.int (49 : Int32)), (.int (46 : Int32)), (.int bs), (.int (47 : Int32)), (.int (115 : Int32)), (.int (112 : Int32)), (.int (101 : Int32)), (.int (99 : Int32)), (.int (47 : Int32)), (.int (35 : Int32)), (.int (105 : Int32)), (.int (110 : Int32)), (.int (118 : Int32)), (.int (0 : Int32)), (.int (0 : Int32)), (.int (0 : Int32)), (.int (0 : Int32)), (.int (0 : Int32)), (.int (0 : Int32))] (.int (0 : Int32)) := A79
        refine gs (mkF m 219 _ [(.ref b21), (.ref b21)]) (fun T A t k => XS.dup A B.x rfl (B.d at_218) rfl rfl k) ?_
        refine gs (mkF m 221 _ [(.int (29 : Int32)), (.ref b21), (.ref b21)]) (fun T A t k => XS.bipush A B.x rfl (B.d at_219) k) ?_
        refine gs (mkF m 223 _ [(.int (101 : Int32)), (.int (29 : Int32)), (.ref b21), (.ref b21)]) (fun T A t k => XS.bipush A B.x rfl (B.d at_221) k) ?_
        refine g_stC B V79 (x' := (101 : Int32)) (by decide) ⟨by decide, by decide⟩ (i := 29) rfl (Nat.le_of_ble_eq_true rfl) at_223 (Safe.arv Wt80.1.alike V79 (by decide)) (by omega) (q := 224) rfl ?_
        intro h81 W81 A81
        refine g_wt (fun Wt82 => ?_)
        have z81 := W81.size
        have V81 : Arv Z h81 b21 k21 .char (35 : Int32) [(.int (104 : Int32)), (.int (116 : Int32)), (.int (116 : Int32)), (.int (112 : Int32)), (.int (115 : Int32)), (.int (58 : Int32)), (.int (47 : Int32)), (.int (47 : Int32)), (.int (111 : Int32)), (.int (99 : Int32)), (.int (102 : Int32)), (.int (108 : Int32)), (.int (46 : Int32)), (.int (105 : Int32)), (.int (111 : Int32)), (.int (47 : Int32)), (.int (49 : Int32)), (.int (46 : Int32)), (.int bs), (.int (47 : Int32)), (.int (115 : Int32)), (.int (112 : Int32)), (.int (101 : Int32)), (.int (99 : Int32)), (.int (47 : Int32)), (.int (35 : Int32)), (.int (105 : Int32)), (.int (110 : Int32)), (.int (118 : Int32)), (.int (101 : Int32)), (.int (0 : Int32)), (.int (0 : Int32)), (.int (0 : Int32)), (.int (0 : Int32)), (.int (0 : Int32))] (.int (0 : Int32)) := A81
        refine gs (mkF m 225 _ [(.ref b21), (.ref b21)]) (fun T A t k => XS.dup A B.x rfl (B.d at_224) rfl rfl k) ?_
        refine gs (mkF m 227 _ [(.int (30 : Int32)), (.ref b21), (.ref b21)]) (fun T A t k => XS.bipush A B.x rfl (B.d at_225) k) ?_
        refine gs (mkF m 229 _ [(.int (110 : Int32)), (.int (30 : Int32)), (.ref b21), (.ref b21)]) (fun T A t k => XS.bipush A B.x rfl (B.d at_227) k) ?_
        refine g_stC B V81 (x' := (110 : Int32)) (by decide) ⟨by decide, by decide⟩ (i := 30) rfl (Nat.le_of_ble_eq_true rfl) at_229 (Safe.arv Wt82.1.alike V81 (by decide)) (by omega) (q := 230) rfl ?_
        intro h83 W83 A83
        refine g_wt (fun Wt84 => ?_)
        have z83 := W83.size
        have V83 : Arv Z h83 b21 k21 .char (35 : Int32) [(.int (104 : Int32)), (.int (116 : Int32)), (.int (116 : Int32)), (.int (112 : Int32)), (.int (115 : Int32)), (.int (58 : Int32)), (.int (47 : Int32)), (.int (47 : Int32)), (.int (111 : Int32)), (.int (99 : Int32)), (.int (102 : Int32)), (.int (108 : Int32)), (.int (46 : Int32)), (.int (105 : Int32)), (.int (111 : Int32)), (.int (47 : Int32)), (.int (49 : Int32)), (.int (46 : Int32)), (.int bs), (.int (47 : Int32)), (.int (115 : Int32)), (.int (112 : Int32)), (.int (101 : Int32)), (.int (99 : Int32)), (.int (47 : Int32)), (.int (35 : Int32)), (.int (105 : Int32)), (.int (110 : Int32)), (.int (118 : Int32)), (.int (101 : Int32)), (.int (110 : Int32)), (.int (0 : Int32)), (.int (0 : Int32)), (.int (0 : Int32)), (.int (0 : Int32))] (.int (0 : Int32)) := A83
        refine gs (mkF m 231 _ [(.ref b21), (.ref b21)]) (fun T A t k => XS.dup A B.x rfl (B.d at_230) rfl rfl k) ?_
        refine gs (mkF m 233 _ [(.int (31 : Int32)), (.ref b21), (.ref b21)]) (fun T A t k => XS.bipush A B.x rfl (B.d at_231) k) ?_
        refine gs (mkF m 235 _ [(.int (116 : Int32)), (.int (31 : Int32)), (.ref b21), (.ref b21)]) (fun T A t k => XS.bipush A B.x rfl (B.d at_233) k) ?_
        refine g_stC B V83 (x' := (116 : Int32)) (by decide) ⟨by decide, by decide⟩ (i := 31) rfl (Nat.le_of_ble_eq_true rfl) at_235 (Safe.arv Wt84.1.alike V83 (by decide)) (by omega) (q := 236) rfl ?_
        intro h85 W85 A85
        refine g_wt (fun Wt86 => ?_)
        have z85 := W85.size
        have V85 : Arv Z h85 b21 k21 .char (35 : Int32) [(.int (104 : Int32)), (.int (116 : Int32)), (.int (116 : Int32)), (.int (112 : Int32)), (.int (115 : Int32)), (.int (58 : Int32)), (.int (47 : Int32)), (.int (47 : Int32)), (.int (111 : Int32)), (.int (99 : Int32)), (.int (102 : Int32)), (.int (108 : Int32)), (.int (46 : Int32)), (.int (105 : Int32)), (.int (111 : Int32)), (.int (47 : Int32)), (.int (49 : Int32)), (.int (46 : Int32)), (.int bs), (.int (47 : Int32)), (.int (115 : Int32)), (.int (112 : Int32)), (.int (101 : Int32)), (.int (99 : Int32)), (.int (47 : Int32)), (.int (35 : Int32)), (.int (105 : Int32)), (.int (110 : Int32)), (.int (118 : Int32)), (.int (101 : Int32)), (.int (110 : Int32)), (.int (116 : Int32)), (.int (0 : Int32)), (.int (0 : Int32)), (.int (0 : Int32))] (.int (0 : Int32)) := A85
        refine gs (mkF m 237 _ [(.ref b21), (.ref b21)]) (fun T A t k => XS.dup A B.x rfl (B.d at_236) rfl rfl k) ?_
        refine gs (mkF m 239 _ [(.int (32 : Int32)), (.ref b21), (.ref b21)]) (fun T A t k => XS.bipush A B.x rfl (B.d at_237) k) ?_
        refine gs (mkF m 241 _ [(.int (111 : Int32)), (.int (32 : Int32)), (.ref b21), (.ref b21)]) (fun T A t k => XS.bipush A B.x rfl (B.d at_239) k) ?_
        refine g_stC B V85 (x' := (111 : Int32)) (by decide) ⟨by decide, by decide⟩ (i := 32) rfl (Nat.le_of_ble_eq_true rfl) at_241 (Safe.arv Wt86.1.alike V85 (by decide)) (by omega) (q := 242) rfl ?_
        intro h87 W87 A87
        refine g_wt (fun Wt88 => ?_)
        have z87 := W87.size
        have V87 : Arv Z h87 b21 k21 .char (35 : Int32) [(.int (104 : Int32)), (.int (116 : Int32)), (.int (116 : Int32)), (.int (112 : Int32)), (.int (115 : Int32)), (.int (58 : Int32)), (.int (47 : Int32)), (.int (47 : Int32)), (.int (111 : Int32)), (.int (99 : Int32)), (.int (102 : Int32)), (.int (108 : Int32)), (.int (46 : Int32)), (.int (105 : Int32)), (.int (111 : Int32)), (.int (47 : Int32)), (.int (49 : Int32)), (.int (46 : Int32)), (.int bs), (.int (47 : Int32)), (.int (115 : Int32)), (.int (112 : Int32)), (.int (101 : Int32)), (.int (99 : Int32)), (.int (47 : Int32)), (.int (35 : Int32)), (.int (105 : Int32)), (.int (110 : Int32)), (.int (118 : Int32)), (.int (101 : Int32)), (.int (110 : Int32)), (.int (116 : Int32)), (.int (111 : Int32)), (.int (0 : Int32)), (.int (0 : Int32))] (.int (0 : Int32)) := A87
        refine gs (mkF m 243 _ [(.ref b21), (.ref b21)]) (fun T A t k => XS.dup A B.x rfl (B.d at_242) rfl rfl k) ?_
        refine gs (mkF m 245 _ [(.int (33 : Int32)), (.ref b21), (.ref b21)]) (fun T A t k => XS.bipush A B.x rfl (B.d at_243) k) ?_
        refine gs (mkF m 247 _ [(.int (114 : Int32)), (.int (33 : Int32)), (.ref b21), (.ref b21)]) (fun T A t k => XS.bipush A B.x rfl (B.d at_245) k) ?_
        refine g_stC B V87 (x' := (114 : Int32)) (by decide) ⟨by decide, by decide⟩ (i := 33) rfl (Nat.le_of_ble_eq_true rfl) at_247 (Safe.arv Wt88.1.alike V87 (by decide)) (by omega) (q := 248) rfl ?_
        intro h89 W89 A89
        refine g_wt (fun Wt90 => ?_)
        have z89 := W89.size
        have V89 : Arv Z h89 b21 k21 .char (35 : Int32) [(.int (104 : Int32)), (.int (116 : Int32)), (.int (116 : Int32)), (.int (112 : Int32)), (.int (115 : Int32)), (.int (58 : Int32)), (.int (47 : Int32)), (.int (47 : Int32)), (.int (111 : Int32)), (.int (99 : Int32)), (.int (102 : Int32)), (.int (108 : Int32)), (.int (46 : Int32)), (.int (105 : Int32)), (.int (111 : Int32)), (.int (47 : Int32)), (.int (49 : Int32)), (.int (46 : Int32)), (.int bs), (.int (47 : Int32)), (.int (115 : Int32)), (.int (112 : Int32)), (.int (101 : Int32)), (.int (99 : Int32)), (.int (47 : Int32)), (.int (35 : Int32)), (.int (105 : Int32)), (.int (110 : Int32)), (.int (118 : Int32)), (.int (101 : Int32)), (.int (110 : Int32)), (.int (116 : Int32)), (.int (111 : Int32)), (.int (114 : Int32)), (.int (0 : Int32))] (.int (0 : Int32)) := A89
        refine gs (mkF m 249 _ [(.ref b21), (.ref b21)]) (fun T A t k => XS.dup A B.x rfl (B.d at_248) rfl rfl k) ?_
        refine gs (mkF m 251 _ [(.int (34 : Int32)), (.ref b21), (.ref b21)]) (fun T A t k => XS.bipush A B.x rfl (B.d at_249) k) ?_
        refine gs (mkF m 253 _ [(.int (121 : Int32)), (.int (34 : Int32)), (.ref b21), (.ref b21)]) (fun T A t k => XS.bipush A B.x rfl (B.d at_251) k) ?_
        refine g_stC B V89 (x' := (121 : Int32)) (by decide) ⟨by decide, by decide⟩ (i := 34) rfl (Nat.le_of_ble_eq_true rfl) at_253 (Safe.arv Wt90.1.alike V89 (by decide)) (by omega) (q := 254) rfl ?_
        intro h91 W91 A91
        refine g_wt (fun Wt92 => ?_)
        have z91 := W91.size
        have V91 : Arv Z h91 b21 k21 .char (35 : Int32) [(.int (104 : Int32)), (.int (116 : Int32)), (.int (116 : Int32)), (.int (112 : Int32)), (.int (115 : Int32)), (.int (58 : Int32)), (.int (47 : Int32)), (.int (47 : Int32)), (.int (111 : Int32)), (.int (99 : Int32)), (.int (102 : Int32)), (.int (108 : Int32)), (.int (46 : Int32)), (.int (105 : Int32)), (.int (111 : Int32)), (.int (47 : Int32)), (.int (49 : Int32)), (.int (46 : Int32)), (.int bs), (.int (47 : Int32)), (.int (115 : Int32)), (.int (112 : Int32)), (.int (101 : Int32)), (.int (99 : Int32)), (.int (47 : Int32)), (.int (35 : Int32)), (.int (105 : Int32)), (.int (110 : Int32)), (.int (118 : Int32)), (.int (101 : Int32)), (.int (110 : Int32)), (.int (116 : Int32)), (.int (111 : Int32)), (.int (114 : Int32)), (.int (121 : Int32))] (.int (0 : Int32)) := A91
        refine gs (mkF m 256 #[.val (.int p1), .val (.int p2), .val (.int p3), .val (.int p4), .val (.int cc), .val (.int bs), .val (.int kp), .val (.int (0 : Int32)), .val (.ref b21), .unset, .unset, .unset, .unset, .unset] []) (fun T A t k => XS.astore A B.x rfl (B.d at_254) rfl rfl (l' := #[.val (.int p1), .val (.int p2), .val (.int p3), .val (.int p4), .val (.int cc), .val (.int bs), .val (.int kp), .val (.int (0 : Int32)), .val (.ref b21), .unset, .unset, .unset, .unset, .unset]) rfl k) ?_
        refine gs (mkF m 257 _ [(.int p2)]) (fun T A t k => XS.iloadN A B.x rfl (B.d at_256) rfl k) ?_
        refine g_ldcI B (hw _ (List.mem_of_getElem? (i := 1) rfl)) at_257 (q := 259) rfl ?_
        refine gs (mkF m 260 _ [(.int (p2 &&& (2147483647 : Int32)))]) (fun T A t k => XS.iand A B.x rfl (B.d at_259) rfl k) ?_
        refine gs (mkF m 262 _ [(.int (35 : Int32)), (.int (p2 &&& (2147483647 : Int32)))]) (fun T A t k => XS.bipush A B.x rfl (B.d at_260) k) ?_
        refine gs (mkF m 263 _ [(.int ((p2 &&& (2147483647 : Int32)) - (p2 &&& (2147483647 : Int32)) / (35 : Int32) * (35 : Int32)))]) (fun T A t k => XS.irem A B.x rfl (B.d at_262) rfl (by decide) k) ?_
        generalize e_pp : ((p2 &&& (2147483647 : Int32)) - (p2 &&& (2147483647 : Int32)) / (35 : Int32) * (35 : Int32)) = pp
        have hpp : ¬ pp < 0 ∧ pp < 35 := e_pp ▸ idx35 p2
        clear e_pp
        have hi := i35 hpp
        refine gs (mkF m 265 #[.val (.int p1), .val (.int p2), .val (.int p3), .val (.int p4), .val (.int cc), .val (.int bs), .val (.int kp), .val (.int (0 : Int32)), .val (.ref b21), .val (.int pp), .unset, .unset, .unset, .unset] []) (fun T A t k => XS.istore A B.x rfl (B.d at_263) rfl (l' := #[.val (.int p1), .val (.int p2), .val (.int p3), .val (.int p4), .val (.int cc), .val (.int bs), .val (.int kp), .val (.int (0 : Int32)), .val (.ref b21), .val (.int pp), .unset, .unset, .unset, .unset]) rfl k) ?_
        refine gs (mkF m 267 _ [(.ref b21)]) (fun T A t k => XS.aload A B.x rfl (B.d at_265) rfl rfl k) ?_
        refine gs (mkF m 269 _ [(.int pp), (.ref b21)]) (fun T A t k => XS.iload A B.x rfl (B.d at_267) rfl k) ?_
        have VL : Arv Z h91 b21 k21 .char (35 : Int32) ((inv bs).map Value.int) (.int (0 : Int32)) := V91
        refine g_ldC B VL hpp (v := (.int (og bs pp))) (vget (inv bs) _) at_269 (q := 270) rfl ?_
        refine gs (mkF m 272 #[.val (.int p1), .val (.int p2), .val (.int p3), .val (.int p4), .val (.int cc), .val (.int bs), .val (.int kp), .val (.int (0 : Int32)), .val (.ref b21), .val (.int pp), .val (.int (og bs pp)), .unset, .unset, .unset] []) (fun T A t k => XS.istore A B.x rfl (B.d at_270) rfl (l' := #[.val (.int p1), .val (.int p2), .val (.int p3), .val (.int p4), .val (.int cc), .val (.int bs), .val (.int kp), .val (.int (0 : Int32)), .val (.ref b21), .val (.int pp), .val (.int (og bs pp)), .unset, .unset, .unset]) rfl k) ?_
        refine gs (mkF m 274 _ [(.int kp)]) (fun T A t k => XS.iload A B.x rfl (B.d at_272) rfl k) ?_
        rcases h_kp with rfl | rfl
        · refine gs (mkF m 277 _ []) (fun T A t k => XS.ifNo A B.x rfl (B.d at_274) rfl ((if0 _ _).trans (teq (by decide : (0 : Int32) = (0 : Int32))).2) k) ?_
          refine gs (mkF m 279 _ [(.ref b21)]) (fun T A t k => XS.aload A B.x rfl (B.d at_277) rfl rfl k) ?_
          refine gs (mkF m 281 _ [(.int pp), (.ref b21)]) (fun T A t k => XS.iload A B.x rfl (B.d at_279) rfl k) ?_
          refine gs (mkF m 283 _ [(.int cc), (.int pp), (.ref b21)]) (fun T A t k => XS.iload A B.x rfl (B.d at_281) rfl k) ?_
          refine g_stC B VL (x' := cc) (nar8 hcc) hpp (i := pp.toNatClampNeg) rfl (by rw [List.length_map]; exact hi) at_283 (Safe.arv Wt92.1.alike VL (by decide)) (by omega) (q := 284) rfl ?_
          intro h93 W93 A93
          refine g_wt (fun Wt94 => ?_)
          have z93 := W93.size
          have VS : Arv Z h93 b21 k21 .char (35 : Int32) (((inv bs).set pp.toNatClampNeg cc).map Value.int) (.int (0 : Int32)) := (by rw [List.map_set]; exact A93)
          refine gs (mkF m 286 _ [(.int (0 : Int32))]) (fun T A t k => XS.iload A B.x rfl (B.d at_284) rfl k) ?_
          refine gs (mkF m 289 _ []) (fun T A t k => XS.ifNo A B.x rfl (B.d at_286) rfl ((if0 _ _).trans (teq (by decide : (0 : Int32) = (0 : Int32))).2) k) ?_
          refine gs (mkF m 291 _ [(.int pp)]) (fun T A t k => XS.iload A B.x rfl (B.d at_289) rfl k) ?_
          refine gs (mkF m 293 _ [(.int (18 : Int32)), (.int pp)]) (fun T A t k => XS.bipush A B.x rfl (B.d at_291) k) ?_
          by_cases hp18 : pp = (18 : Int32)
          · refine gs (mkF m 307 _ []) (fun T A t k => XS.icmpYes A B.x rfl (pc0 := 293) (pc' := 307) rfl (B.d at_293) rfl (teq (hp18 : pp = (18 : Int32))).1 (by decide) (by decide) k) ?_
            obtain rfl := hp18
            have VC : Arv Z h93 b21 k21 .char (35 : Int32) ((inv cc).map Value.int) (.int (0 : Int32)) := VS
            refine gs (mkF m 308 _ [(.int (0 : Int32))]) (fun T A t k => XS.iconst A B.x rfl (B.d at_307) k) ?_
            refine gs (mkF m 310 #[.val (.int p1), .val (.int p2), .val (.int p3), .val (.int p4), .val (.int cc), .val (.int bs), .val (.int (0 : Int32)), .val (.int (0 : Int32)), .val (.ref b21), .val (.int (18 : Int32)), .val (.int (og bs (18 : Int32))), .val (.int (0 : Int32)), .unset, .unset] []) (fun T A t k => XS.istore A B.x rfl (B.d at_308) rfl (l' := #[.val (.int p1), .val (.int p2), .val (.int p3), .val (.int p4), .val (.int cc), .val (.int bs), .val (.int (0 : Int32)), .val (.int (0 : Int32)), .val (.ref b21), .val (.int (18 : Int32)), .val (.int (og bs (18 : Int32))), .val (.int (0 : Int32)), .unset, .unset]) rfl k) ?_
            refine gs (mkF m 312 _ [(.ref b21)]) (fun T A t k => XS.aload A B.x rfl (B.d at_310) rfl rfl k) ?_
            refine gs (mkF m 314 _ [(.int (18 : Int32)), (.ref b21)]) (fun T A t k => XS.bipush A B.x rfl (B.d at_312) k) ?_
            refine g_ldC B VC ⟨by decide, by decide⟩ (v := (.int cc)) rfl at_314 (q := 315) rfl ?_
            refine gs (mkF m 317 #[.val (.int p1), .val (.int p2), .val (.int p3), .val (.int p4), .val (.int cc), .val (.int bs), .val (.int (0 : Int32)), .val (.int (0 : Int32)), .val (.ref b21), .val (.int (18 : Int32)), .val (.int (og bs (18 : Int32))), .val (.int (0 : Int32)), .val (.int cc), .unset] []) (fun T A t k => XS.istore A B.x rfl (B.d at_315) rfl (l' := #[.val (.int p1), .val (.int p2), .val (.int p3), .val (.int p4), .val (.int cc), .val (.int bs), .val (.int (0 : Int32)), .val (.int (0 : Int32)), .val (.ref b21), .val (.int (18 : Int32)), .val (.int (og bs (18 : Int32))), .val (.int (0 : Int32)), .val (.int cc), .unset]) rfl k) ?_
            refine gs (mkF m 319 _ [(.int (0 : Int32))]) (fun T A t k => XS.iload A B.x rfl (B.d at_317) rfl k) ?_
            refine gs (mkF m 328 _ []) (fun T A t k => XS.ifYes A B.x rfl (pc0 := 319) (pc' := 328) rfl (B.d at_319) rfl ((if0 _ _).trans (teq (by decide : (0 : Int32) = (0 : Int32))).1) (by decide) (by decide) k) ?_
            refine gs (mkF m 330 _ [(.int cc)]) (fun T A t k => XS.iload A B.x rfl (B.d at_328) rfl k) ?_
            refine gs (mkF m 332 _ [(.int (48 : Int32)), (.int cc)]) (fun T A t k => XS.bipush A B.x rfl (B.d at_330) k) ?_
            by_cases h48 : cc = (48 : Int32)
            · refine gs (mkF m 335 _ []) (fun T A t k => XS.icmpNo A B.x rfl (B.d at_332) rfl (teq (h48 : cc = (48 : Int32))).2 k) ?_
              refine g_getS B (hw _ (List.mem_of_getElem? (i := 200) rfl)) (S0.ext (((((((((((((((((((((((((((((((((((((PO.ext E21).wr W23 (by omega)).wr W25 (by omega)).wr W27 (by omega)).wr W29 (by omega)).wr W31 (by omega)).wr W33 (by omega)).wr W35 (by omega)).wr W37 (by omega)).wr W39 (by omega)).wr W41 (by omega)).wr W43 (by omega)).wr W45 (by omega)).wr W47 (by omega)).wr W49 (by omega)).wr W51 (by omega)).wr W53 (by omega)).wr W55 (by omega)).wr W57 (by omega)).wr W59 (by omega)).wr W61 (by omega)).wr W63 (by omega)).wr W65 (by omega)).wr W67 (by omega)).wr W69 (by omega)).wr W71 (by omega)).wr W73 (by omega)).wr W75 (by omega)).wr W77 (by omega)).wr W79 (by omega)).wr W81 (by omega)).wr W83 (by omega)).wr W85 (by omega)).wr W87 (by omega)).wr W89 (by omega)).wr W91 (by omega)).wr W93 (by omega)).2) at_335 (q := 338) rfl ?_
              refine gs (mkF m 340 #[.val (.int p1), .val (.int p2), .val (.int p3), .val (.int p4), .val (.int cc), .val (.int bs), .val (.int (0 : Int32)), .val (.int (0 : Int32)), .val (.ref b21), .val (.int (18 : Int32)), .val (.int (og bs (18 : Int32))), .val (.int (0 : Int32)), .val (.int cc), .val (.ref e0)] []) (fun T A t k => XS.astore A B.x rfl (B.d at_338) rfl rfl (l' := #[.val (.int p1), .val (.int p2), .val (.int p3), .val (.int p4), .val (.int cc), .val (.int bs), .val (.int (0 : Int32)), .val (.int (0 : Int32)), .val (.ref b21), .val (.int (18 : Int32)), .val (.int (og bs (18 : Int32))), .val (.int (0 : Int32)), .val (.int cc), .val (.ref e0)]) rfl k) ?_
              refine gs (mkF m 361 _ []) (fun T A t k => XS.goto A B.x rfl (pc0 := 340) (pc' := 361) rfl (B.d at_340) (by decide) (by decide) k) ?_
              refine g_newO B (hw _ (List.mem_of_getElem? (i := 2) rfl)) (hw _ (List.mem_of_getElem? (i := 3) rfl)) (hw _ (List.mem_of_getElem? (i := 4) rfl)) at_361 (by decide) (by decide) (q := 364) rfl ?_
              intro h95 b95 g95 E95 S95 A95 D95
              refine g_wt (fun Wt96 => ?_)
              have z95 := E95.1; have y95 : @LT.lt Nat _ b95 h95.size := A95.lt
              have F95_coder : Fld Z h95 b95 "java/lang/String" "coder" "B" (.int (0 : Int32)) := D95 (Or.inr (hw _ (List.mem_of_getElem? (i := 28) rfl))) (ty := .byte) (by decide)
              have F95_value : Fld Z h95 b95 "java/lang/String" "value" "[B" .null := D95 (Or.inr (hw _ (List.mem_of_getElem? (i := 30) rfl))) (ty := (.array .byte)) (by decide)
              refine gs (mkF m 365 _ [(.ref b95), (.ref b95)]) (fun T A t k => XS.dup A B.x rfl (B.d at_364) rfl rfl k) ?_
              refine gs (mkF m 367 _ [(.ref b21), (.ref b95), (.ref b95)]) (fun T A t k => XS.aload A B.x rfl (B.d at_365) rfl rfl k) ?_
              refine g_pay (Q' := fun v h' L => v = none ∧ Fr n0 L ∧ Keep h95 h' [b95] ∧ ∃ t : Addr, @Eq Nat t h95.size ∧ Str Z h' b95 t (inv cc)) (k := 1) (n := 35) (c_init B rfl (hw _ (List.mem_of_getElem? (i := 5) rfl)) (hw _ (List.mem_of_getElem? (i := 6) rfl)) (hw _ (List.mem_of_getElem? (i := 7) rfl)) (by decide) rfl (lenOf pd_285bC29V rfl) rfl (Nat.le_of_eq rfl) at_367 rfl (argsL := [(.ref b21)]) (rest := [(.ref b95)]) (W := 1) (q := 370)) (fun hZ => own_new (inv cc) 35 hZ (fun d hd => hw d (own_wnew d hd)) (hw _ (List.mem_of_getElem? (i := 3) rfl)) (n0 := n0) (by omega) (by omega) A95 F95_value F95_coder (VC.ext E95) (SC.ext ((((((((((((((((((((((((((((((((((((((PO.ext E21).wr W23 (by omega)).wr W25 (by omega)).wr W27 (by omega)).wr W29 (by omega)).wr W31 (by omega)).wr W33 (by omega)).wr W35 (by omega)).wr W37 (by omega)).wr W39 (by omega)).wr W41 (by omega)).wr W43 (by omega)).wr W45 (by omega)).wr W47 (by omega)).wr W49 (by omega)).wr W51 (by omega)).wr W53 (by omega)).wr W55 (by omega)).wr W57 (by omega)).wr W59 (by omega)).wr W61 (by omega)).wr W63 (by omega)).wr W65 (by omega)).wr W67 (by omega)).wr W69 (by omega)).wr W71 (by omega)).wr W73 (by omega)).wr W75 (by omega)).wr W77 (by omega)).wr W79 (by omega)).wr W81 (by omega)).wr W83 (by omega)).wr W85 (by omega)).wr W87 (by omega)).wr W89 (by omega)).wr W91 (by omega)).wr W93 (by omega)).ext E95).2) hzc rfl rfl (by decide) (by decide) (inv_r8 hcc) (by decide) (by decide)) (by decide) (by decide) (fun v h' L q => ⟨q.2.1, [b95], q.2.2.1, fun z hz => by cases List.mem_singleton.mp hz; exact S95⟩) ?_
              rintro v97 h97 L97 ⟨rfl, -, K97, t97, e97, X97⟩
              refine g_wt (fun Wt98 => ?_)
              have z97 := K97.1; have y97 := X97.lt; have x97 := X97.lt'
              refine g_met hEL (c_static B (hw _ (List.mem_of_getElem? (i := 31) rfl)) (hw _ (List.mem_of_getElem? (i := 32) rfl)) (hw _ (List.mem_of_getElem? (i := 33) rfl)) (hw _ (List.mem_of_getElem? (i := 34) rfl)) (by decide) rfl (lenOf pd_28Ljava2flang2fString3b29Lcom2fexample2faffixity2faffixity2focfl2fOcflVersion3b rfl) rfl (Nat.le_of_eq rfl) at_370 rfl (argsL := [(.ref b95)]) (rest := []) (W := 0) (q := 373)) (w_of l Z a0 hw hEL b95 va kv e0 e1 s0 s1 t0 t1 zc rv t97 (inv cc) h97 n0 X97 PE (by omega) PX (((((((((((((((((((((((((((((((((((((((PO.ext E21).wr W23 (by omega)).wr W25 (by omega)).wr W27 (by omega)).wr W29 (by omega)).wr W31 (by omega)).wr W33 (by omega)).wr W35 (by omega)).wr W37 (by omega)).wr W39 (by omega)).wr W41 (by omega)).wr W43 (by omega)).wr W45 (by omega)).wr W47 (by omega)).wr W49 (by omega)).wr W51 (by omega)).wr W53 (by omega)).wr W55 (by omega)).wr W57 (by omega)).wr W59 (by omega)).wr W61 (by omega)).wr W63 (by omega)).wr W65 (by omega)).wr W67 (by omega)).wr W69 (by omega)).wr W71 (by omega)).wr W73 (by omega)).wr W75 (by omega)).wr W77 (by omega)).wr W79 (by omega)).wr W81 (by omega)).wr W83 (by omega)).wr W85 (by omega)).wr W87 (by omega)).wr W89 (by omega)).wr W91 (by omega)).wr W93 (by omega)).ext E95).keep K97 (allS (by omega) all0))) (hw _ (List.mem_of_getElem? (i := 34) rfl)) (hw _ (List.mem_of_getElem? (i := 33) rfl)) (by decide) (by decide) (by decide) (by decide) (fun _ q => nomatch q) ?_
              intro v99 h99 vm99 hZ99 C99 hQ99
              obtain ⟨ev99, K99⟩ := hQ99
              rw [show ofV e0 e1 (inv cc) = (.ref e0) from (by rw [h48]; exact of_48 _ _)] at ev99; subst ev99
              refine g_wt (fun Wt100 => ?_)
              refine gs (mkF m 375 _ [(.ref e0), (.ref e0)]) (fun T A t k => XS.aload A B.x rfl (B.d at_373) rfl rfl k) ?_
              refine g_acmp B rfl rfl at_375 (same := true) (decide_eq_true rfl) (by decide) (q := 378) (by decide) ?_
              refine gs (mkF m 379 _ [(.int (1 : Int32))]) (fun T A t k => XS.iconst A B.x rfl (B.d at_378) k) ?_
              refine gs (mkF m 383 _ [(.int (1 : Int32))]) (fun T A t k => XS.goto A B.x rfl (pc0 := 379) (pc' := 383) rfl (B.d at_379) (by decide) (by decide) k) ?_
              exact g_retN (t := .boolean) B (by simp) at_383 (by decide) (by decide) rfl
            · refine gs (mkF m 343 _ []) (fun T A t k => XS.icmpYes A B.x rfl (pc0 := 332) (pc' := 343) rfl (B.d at_332) rfl (feq (h48 : ¬ (cc = (48 : Int32)))).2 (by decide) (by decide) k) ?_
              refine gs (mkF m 345 _ [(.int cc)]) (fun T A t k => XS.iload A B.x rfl (B.d at_343) rfl k) ?_
              refine gs (mkF m 347 _ [(.int (49 : Int32)), (.int cc)]) (fun T A t k => XS.bipush A B.x rfl (B.d at_345) k) ?_
              by_cases h49 : cc = (49 : Int32)
              · refine gs (mkF m 350 _ []) (fun T A t k => XS.icmpNo A B.x rfl (B.d at_347) rfl (teq (h49 : cc = (49 : Int32))).2 k) ?_
                refine g_getS B (hw _ (List.mem_of_getElem? (i := 213) rfl)) (S1.ext (((((((((((((((((((((((((((((((((((((PO.ext E21).wr W23 (by omega)).wr W25 (by omega)).wr W27 (by omega)).wr W29 (by omega)).wr W31 (by omega)).wr W33 (by omega)).wr W35 (by omega)).wr W37 (by omega)).wr W39 (by omega)).wr W41 (by omega)).wr W43 (by omega)).wr W45 (by omega)).wr W47 (by omega)).wr W49 (by omega)).wr W51 (by omega)).wr W53 (by omega)).wr W55 (by omega)).wr W57 (by omega)).wr W59 (by omega)).wr W61 (by omega)).wr W63 (by omega)).wr W65 (by omega)).wr W67 (by omega)).wr W69 (by omega)).wr W71 (by omega)).wr W73 (by omega)).wr W75 (by omega)).wr W77 (by omega)).wr W79 (by omega)).wr W81 (by omega)).wr W83 (by omega)).wr W85 (by omega)).wr W87 (by omega)).wr W89 (by omega)).wr W91 (by omega)).wr W93 (by omega)).2) at_350 (q := 353) rfl ?_
                refine gs (mkF m 355 #[.val (.int p1), .val (.int p2), .val (.int p3), .val (.int p4), .val (.int cc), .val (.int bs), .val (.int (0 : Int32)), .val (.int (0 : Int32)), .val (.ref b21), .val (.int (18 : Int32)), .val (.int (og bs (18 : Int32))), .val (.int (0 : Int32)), .val (.int cc), .val (.ref e1)] []) (fun T A t k => XS.astore A B.x rfl (B.d at_353) rfl rfl (l' := #[.val (.int p1), .val (.int p2), .val (.int p3), .val (.int p4), .val (.int cc), .val (.int bs), .val (.int (0 : Int32)), .val (.int (0 : Int32)), .val (.ref b21), .val (.int (18 : Int32)), .val (.int (og bs (18 : Int32))), .val (.int (0 : Int32)), .val (.int cc), .val (.ref e1)]) rfl k) ?_
                refine gs (mkF m 361 _ []) (fun T A t k => XS.goto A B.x rfl (pc0 := 355) (pc' := 361) rfl (B.d at_355) (by decide) (by decide) k) ?_
                refine g_newO B (hw _ (List.mem_of_getElem? (i := 2) rfl)) (hw _ (List.mem_of_getElem? (i := 3) rfl)) (hw _ (List.mem_of_getElem? (i := 4) rfl)) at_361 (by decide) (by decide) (q := 364) rfl ?_
                intro h101 b101 g101 E101 S101 A101 D101
                refine g_wt (fun Wt102 => ?_)
                have z101 := E101.1; have y101 : @LT.lt Nat _ b101 h101.size := A101.lt
                have F101_coder : Fld Z h101 b101 "java/lang/String" "coder" "B" (.int (0 : Int32)) := D101 (Or.inr (hw _ (List.mem_of_getElem? (i := 28) rfl))) (ty := .byte) (by decide)
                have F101_value : Fld Z h101 b101 "java/lang/String" "value" "[B" .null := D101 (Or.inr (hw _ (List.mem_of_getElem? (i := 30) rfl))) (ty := (.array .byte)) (by decide)
                refine gs (mkF m 365 _ [(.ref b101), (.ref b101)]) (fun T A t k => XS.dup A B.x rfl (B.d at_364) rfl rfl k) ?_
                refine gs (mkF m 367 _ [(.ref b21), (.ref b101), (.ref b101)]) (fun T A t k => XS.aload A B.x rfl (B.d at_365) rfl rfl k) ?_
                refine g_pay (Q' := fun v h' L => v = none ∧ Fr n0 L ∧ Keep h101 h' [b101] ∧ ∃ t : Addr, @Eq Nat t h101.size ∧ Str Z h' b101 t (inv cc)) (k := 1) (n := 35) (c_init B rfl (hw _ (List.mem_of_getElem? (i := 5) rfl)) (hw _ (List.mem_of_getElem? (i := 6) rfl)) (hw _ (List.mem_of_getElem? (i := 7) rfl)) (by decide) rfl (lenOf pd_285bC29V rfl) rfl (Nat.le_of_eq rfl) at_367 rfl (argsL := [(.ref b21)]) (rest := [(.ref b101)]) (W := 1) (q := 370)) (fun hZ => own_new (inv cc) 35 hZ (fun d hd => hw d (own_wnew d hd)) (hw _ (List.mem_of_getElem? (i := 3) rfl)) (n0 := n0) (by omega) (by omega) A101 F101_value F101_coder (VC.ext E101) (SC.ext ((((((((((((((((((((((((((((((((((((((PO.ext E21).wr W23 (by omega)).wr W25 (by omega)).wr W27 (by omega)).wr W29 (by omega)).wr W31 (by omega)).wr W33 (by omega)).wr W35 (by omega)).wr W37 (by omega)).wr W39 (by omega)).wr W41 (by omega)).wr W43 (by omega)).wr W45 (by omega)).wr W47 (by omega)).wr W49 (by omega)).wr W51 (by omega)).wr W53 (by omega)).wr W55 (by omega)).wr W57 (by omega)).wr W59 (by omega)).wr W61 (by omega)).wr W63 (by omega)).wr W65 (by omega)).wr W67 (by omega)).wr W69 (by omega)).wr W71 (by omega)).wr W73 (by omega)).wr W75 (by omega)).wr W77 (by omega)).wr W79 (by omega)).wr W81 (by omega)).wr W83 (by omega)).wr W85 (by omega)).wr W87 (by omega)).wr W89 (by omega)).wr W91 (by omega)).wr W93 (by omega)).ext E101).2) hzc rfl rfl (by decide) (by decide) (inv_r8 hcc) (by decide) (by decide)) (by decide) (by decide) (fun v h' L q => ⟨q.2.1, [b101], q.2.2.1, fun z hz => by cases List.mem_singleton.mp hz; exact S101⟩) ?_
                rintro v103 h103 L103 ⟨rfl, -, K103, t103, e103, X103⟩
                refine g_wt (fun Wt104 => ?_)
                have z103 := K103.1; have y103 := X103.lt; have x103 := X103.lt'
                refine g_met hEL (c_static B (hw _ (List.mem_of_getElem? (i := 31) rfl)) (hw _ (List.mem_of_getElem? (i := 32) rfl)) (hw _ (List.mem_of_getElem? (i := 33) rfl)) (hw _ (List.mem_of_getElem? (i := 34) rfl)) (by decide) rfl (lenOf pd_28Ljava2flang2fString3b29Lcom2fexample2faffixity2faffixity2focfl2fOcflVersion3b rfl) rfl (Nat.le_of_eq rfl) at_370 rfl (argsL := [(.ref b101)]) (rest := []) (W := 0) (q := 373)) (w_of l Z a0 hw hEL b101 va kv e0 e1 s0 s1 t0 t1 zc rv t103 (inv cc) h103 n0 X103 PE (by omega) PX (((((((((((((((((((((((((((((((((((((((PO.ext E21).wr W23 (by omega)).wr W25 (by omega)).wr W27 (by omega)).wr W29 (by omega)).wr W31 (by omega)).wr W33 (by omega)).wr W35 (by omega)).wr W37 (by omega)).wr W39 (by omega)).wr W41 (by omega)).wr W43 (by omega)).wr W45 (by omega)).wr W47 (by omega)).wr W49 (by omega)).wr W51 (by omega)).wr W53 (by omega)).wr W55 (by omega)).wr W57 (by omega)).wr W59 (by omega)).wr W61 (by omega)).wr W63 (by omega)).wr W65 (by omega)).wr W67 (by omega)).wr W69 (by omega)).wr W71 (by omega)).wr W73 (by omega)).wr W75 (by omega)).wr W77 (by omega)).wr W79 (by omega)).wr W81 (by omega)).wr W83 (by omega)).wr W85 (by omega)).wr W87 (by omega)).wr W89 (by omega)).wr W91 (by omega)).wr W93 (by omega)).ext E101).keep K103 (allS (by omega) all0))) (hw _ (List.mem_of_getElem? (i := 34) rfl)) (hw _ (List.mem_of_getElem? (i := 33) rfl)) (by decide) (by decide) (by decide) (by decide) (fun _ q => nomatch q) ?_
                intro v105 h105 vm105 hZ105 C105 hQ105
                obtain ⟨ev105, K105⟩ := hQ105
                rw [show ofV e0 e1 (inv cc) = (.ref e1) from (by rw [h49]; exact of_49 _ _)] at ev105; subst ev105
                refine g_wt (fun Wt106 => ?_)
                refine gs (mkF m 375 _ [(.ref e1), (.ref e1)]) (fun T A t k => XS.aload A B.x rfl (B.d at_373) rfl rfl k) ?_
                refine g_acmp B rfl rfl at_375 (same := true) (decide_eq_true rfl) (by decide) (q := 378) (by decide) ?_
                refine gs (mkF m 379 _ [(.int (1 : Int32))]) (fun T A t k => XS.iconst A B.x rfl (B.d at_378) k) ?_
                refine gs (mkF m 383 _ [(.int (1 : Int32))]) (fun T A t k => XS.goto A B.x rfl (pc0 := 379) (pc' := 383) rfl (B.d at_379) (by decide) (by decide) k) ?_
                exact g_retN (t := .boolean) B (by simp) at_383 (by decide) (by decide) rfl
              · refine gs (mkF m 358 _ []) (fun T A t k => XS.icmpYes A B.x rfl (pc0 := 347) (pc' := 358) rfl (B.d at_347) rfl (feq (h49 : ¬ (cc = (49 : Int32)))).2 (by decide) (by decide) k) ?_
                refine gs (mkF m 359 _ [.null]) (fun T A t k => XS.aconstNull A B.x rfl (B.d at_358) k) ?_
                refine gs (mkF m 361 #[.val (.int p1), .val (.int p2), .val (.int p3), .val (.int p4), .val (.int cc), .val (.int bs), .val (.int (0 : Int32)), .val (.int (0 : Int32)), .val (.ref b21), .val (.int (18 : Int32)), .val (.int (og bs (18 : Int32))), .val (.int (0 : Int32)), .val (.int cc), .val .null] []) (fun T A t k => XS.astore A B.x rfl (B.d at_359) rfl rfl (l' := #[.val (.int p1), .val (.int p2), .val (.int p3), .val (.int p4), .val (.int cc), .val (.int bs), .val (.int (0 : Int32)), .val (.int (0 : Int32)), .val (.ref b21), .val (.int (18 : Int32)), .val (.int (og bs (18 : Int32))), .val (.int (0 : Int32)), .val (.int cc), .val .null]) rfl k) ?_
                refine g_newO B (hw _ (List.mem_of_getElem? (i := 2) rfl)) (hw _ (List.mem_of_getElem? (i := 3) rfl)) (hw _ (List.mem_of_getElem? (i := 4) rfl)) at_361 (by decide) (by decide) (q := 364) rfl ?_
                intro h107 b107 g107 E107 S107 A107 D107
                refine g_wt (fun Wt108 => ?_)
                have z107 := E107.1; have y107 : @LT.lt Nat _ b107 h107.size := A107.lt
                have F107_coder : Fld Z h107 b107 "java/lang/String" "coder" "B" (.int (0 : Int32)) := D107 (Or.inr (hw _ (List.mem_of_getElem? (i := 28) rfl))) (ty := .byte) (by decide)
                have F107_value : Fld Z h107 b107 "java/lang/String" "value" "[B" .null := D107 (Or.inr (hw _ (List.mem_of_getElem? (i := 30) rfl))) (ty := (.array .byte)) (by decide)
                refine gs (mkF m 365 _ [(.ref b107), (.ref b107)]) (fun T A t k => XS.dup A B.x rfl (B.d at_364) rfl rfl k) ?_
                refine gs (mkF m 367 _ [(.ref b21), (.ref b107), (.ref b107)]) (fun T A t k => XS.aload A B.x rfl (B.d at_365) rfl rfl k) ?_
                refine g_pay (Q' := fun v h' L => v = none ∧ Fr n0 L ∧ Keep h107 h' [b107] ∧ ∃ t : Addr, @Eq Nat t h107.size ∧ Str Z h' b107 t (inv cc)) (k := 1) (n := 35) (c_init B rfl (hw _ (List.mem_of_getElem? (i := 5) rfl)) (hw _ (List.mem_of_getElem? (i := 6) rfl)) (hw _ (List.mem_of_getElem? (i := 7) rfl)) (by decide) rfl (lenOf pd_285bC29V rfl) rfl (Nat.le_of_eq rfl) at_367 rfl (argsL := [(.ref b21)]) (rest := [(.ref b107)]) (W := 1) (q := 370)) (fun hZ => own_new (inv cc) 35 hZ (fun d hd => hw d (own_wnew d hd)) (hw _ (List.mem_of_getElem? (i := 3) rfl)) (n0 := n0) (by omega) (by omega) A107 F107_value F107_coder (VC.ext E107) (SC.ext ((((((((((((((((((((((((((((((((((((((PO.ext E21).wr W23 (by omega)).wr W25 (by omega)).wr W27 (by omega)).wr W29 (by omega)).wr W31 (by omega)).wr W33 (by omega)).wr W35 (by omega)).wr W37 (by omega)).wr W39 (by omega)).wr W41 (by omega)).wr W43 (by omega)).wr W45 (by omega)).wr W47 (by omega)).wr W49 (by omega)).wr W51 (by omega)).wr W53 (by omega)).wr W55 (by omega)).wr W57 (by omega)).wr W59 (by omega)).wr W61 (by omega)).wr W63 (by omega)).wr W65 (by omega)).wr W67 (by omega)).wr W69 (by omega)).wr W71 (by omega)).wr W73 (by omega)).wr W75 (by omega)).wr W77 (by omega)).wr W79 (by omega)).wr W81 (by omega)).wr W83 (by omega)).wr W85 (by omega)).wr W87 (by omega)).wr W89 (by omega)).wr W91 (by omega)).wr W93 (by omega)).ext E107).2) hzc rfl rfl (by decide) (by decide) (inv_r8 hcc) (by decide) (by decide)) (by decide) (by decide) (fun v h' L q => ⟨q.2.1, [b107], q.2.2.1, fun z hz => by cases List.mem_singleton.mp hz; exact S107⟩) ?_
                rintro v109 h109 L109 ⟨rfl, -, K109, t109, e109, X109⟩
                refine g_wt (fun Wt110 => ?_)
                have z109 := K109.1; have y109 := X109.lt; have x109 := X109.lt'
                refine g_met hEL (c_static B (hw _ (List.mem_of_getElem? (i := 31) rfl)) (hw _ (List.mem_of_getElem? (i := 32) rfl)) (hw _ (List.mem_of_getElem? (i := 33) rfl)) (hw _ (List.mem_of_getElem? (i := 34) rfl)) (by decide) rfl (lenOf pd_28Ljava2flang2fString3b29Lcom2fexample2faffixity2faffixity2focfl2fOcflVersion3b rfl) rfl (Nat.le_of_eq rfl) at_370 rfl (argsL := [(.ref b107)]) (rest := []) (W := 0) (q := 373)) (w_of l Z a0 hw hEL b107 va kv e0 e1 s0 s1 t0 t1 zc rv t109 (inv cc) h109 n0 X109 PE (by omega) PX (((((((((((((((((((((((((((((((((((((((PO.ext E21).wr W23 (by omega)).wr W25 (by omega)).wr W27 (by omega)).wr W29 (by omega)).wr W31 (by omega)).wr W33 (by omega)).wr W35 (by omega)).wr W37 (by omega)).wr W39 (by omega)).wr W41 (by omega)).wr W43 (by omega)).wr W45 (by omega)).wr W47 (by omega)).wr W49 (by omega)).wr W51 (by omega)).wr W53 (by omega)).wr W55 (by omega)).wr W57 (by omega)).wr W59 (by omega)).wr W61 (by omega)).wr W63 (by omega)).wr W65 (by omega)).wr W67 (by omega)).wr W69 (by omega)).wr W71 (by omega)).wr W73 (by omega)).wr W75 (by omega)).wr W77 (by omega)).wr W79 (by omega)).wr W81 (by omega)).wr W83 (by omega)).wr W85 (by omega)).wr W87 (by omega)).wr W89 (by omega)).wr W91 (by omega)).wr W93 (by omega)).ext E107).keep K109 (allS (by omega) all0))) (hw _ (List.mem_of_getElem? (i := 34) rfl)) (hw _ (List.mem_of_getElem? (i := 33) rfl)) (by decide) (by decide) (by decide) (by decide) (fun _ q => nomatch q) ?_
                intro v111 h111 vm111 hZ111 C111 hQ111
                obtain ⟨ev111, K111⟩ := hQ111
                rw [show ofV e0 e1 (inv cc) = .null from (of_other _ _ h48 h49)] at ev111; subst ev111
                refine g_wt (fun Wt112 => ?_)
                refine gs (mkF m 375 _ [.null, .null]) (fun T A t k => XS.aload A B.x rfl (B.d at_373) rfl rfl k) ?_
                refine g_acmp B rfl rfl at_375 (same := true) (decide_eq_true rfl) (by decide) (q := 378) (by decide) ?_
                refine gs (mkF m 379 _ [(.int (1 : Int32))]) (fun T A t k => XS.iconst A B.x rfl (B.d at_378) k) ?_
                refine gs (mkF m 383 _ [(.int (1 : Int32))]) (fun T A t k => XS.goto A B.x rfl (pc0 := 379) (pc' := 383) rfl (B.d at_379) (by decide) (by decide) k) ?_
                exact g_retN (t := .boolean) B (by simp) at_383 (by decide) (by decide) rfl
          · refine gs (mkF m 296 _ []) (fun T A t k => XS.icmpNo A B.x rfl (B.d at_293) rfl (feq (hp18 : ¬ (pp = (18 : Int32)))).1 k) ?_
            have hne : pp.toNatClampNeg ≠ 18 := fun e => hp18 (i18 hpp.1 e)
            refine gs (mkF m 298 _ [(.int cc)]) (fun T A t k => XS.iload A B.x rfl (B.d at_296) rfl k) ?_
            refine gs (mkF m 300 _ [(.int (og bs pp)), (.int cc)]) (fun T A t k => XS.iload A B.x rfl (B.d at_298) rfl k) ?_
            by_cases hog : cc = (og bs pp)
            · refine gs (mkF m 307 _ []) (fun T A t k => XS.icmpYes A B.x rfl (pc0 := 300) (pc' := 307) rfl (B.d at_300) rfl (teq (hog : cc = (og bs pp))).1 (by decide) (by decide) k) ?_
              have VC : Arv Z h93 b21 k21 .char (35 : Int32) ((inv bs).map Value.int) (.int (0 : Int32)) := by rw [show (inv bs).set pp.toNatClampNeg cc = inv bs from (by rw [hog]; exact set_same hi)] at VS; exact VS
              refine gs (mkF m 308 _ [(.int (0 : Int32))]) (fun T A t k => XS.iconst A B.x rfl (B.d at_307) k) ?_
              refine gs (mkF m 310 #[.val (.int p1), .val (.int p2), .val (.int p3), .val (.int p4), .val (.int cc), .val (.int bs), .val (.int (0 : Int32)), .val (.int (0 : Int32)), .val (.ref b21), .val (.int pp), .val (.int (og bs pp)), .val (.int (0 : Int32)), .unset, .unset] []) (fun T A t k => XS.istore A B.x rfl (B.d at_308) rfl (l' := #[.val (.int p1), .val (.int p2), .val (.int p3), .val (.int p4), .val (.int cc), .val (.int bs), .val (.int (0 : Int32)), .val (.int (0 : Int32)), .val (.ref b21), .val (.int pp), .val (.int (og bs pp)), .val (.int (0 : Int32)), .unset, .unset]) rfl k) ?_
              refine gs (mkF m 312 _ [(.ref b21)]) (fun T A t k => XS.aload A B.x rfl (B.d at_310) rfl rfl k) ?_
              refine gs (mkF m 314 _ [(.int (18 : Int32)), (.ref b21)]) (fun T A t k => XS.bipush A B.x rfl (B.d at_312) k) ?_
              refine g_ldC B VC ⟨by decide, by decide⟩ (v := (.int bs)) rfl at_314 (q := 315) rfl ?_
              refine gs (mkF m 317 #[.val (.int p1), .val (.int p2), .val (.int p3), .val (.int p4), .val (.int cc), .val (.int bs), .val (.int (0 : Int32)), .val (.int (0 : Int32)), .val (.ref b21), .val (.int pp), .val (.int (og bs pp)), .val (.int (0 : Int32)), .val (.int bs), .unset] []) (fun T A t k => XS.istore A B.x rfl (B.d at_315) rfl (l' := #[.val (.int p1), .val (.int p2), .val (.int p3), .val (.int p4), .val (.int cc), .val (.int bs), .val (.int (0 : Int32)), .val (.int (0 : Int32)), .val (.ref b21), .val (.int pp), .val (.int (og bs pp)), .val (.int (0 : Int32)), .val (.int bs), .unset]) rfl k) ?_
              refine gs (mkF m 319 _ [(.int (0 : Int32))]) (fun T A t k => XS.iload A B.x rfl (B.d at_317) rfl k) ?_
              refine gs (mkF m 328 _ []) (fun T A t k => XS.ifYes A B.x rfl (pc0 := 319) (pc' := 328) rfl (B.d at_319) rfl ((if0 _ _).trans (teq (by decide : (0 : Int32) = (0 : Int32))).1) (by decide) (by decide) k) ?_
              refine gs (mkF m 330 _ [(.int bs)]) (fun T A t k => XS.iload A B.x rfl (B.d at_328) rfl k) ?_
              refine gs (mkF m 332 _ [(.int (48 : Int32)), (.int bs)]) (fun T A t k => XS.bipush A B.x rfl (B.d at_330) k) ?_
              by_cases h48 : bs = (48 : Int32)
              · refine gs (mkF m 335 _ []) (fun T A t k => XS.icmpNo A B.x rfl (B.d at_332) rfl (teq (h48 : bs = (48 : Int32))).2 k) ?_
                refine g_getS B (hw _ (List.mem_of_getElem? (i := 200) rfl)) (S0.ext (((((((((((((((((((((((((((((((((((((PO.ext E21).wr W23 (by omega)).wr W25 (by omega)).wr W27 (by omega)).wr W29 (by omega)).wr W31 (by omega)).wr W33 (by omega)).wr W35 (by omega)).wr W37 (by omega)).wr W39 (by omega)).wr W41 (by omega)).wr W43 (by omega)).wr W45 (by omega)).wr W47 (by omega)).wr W49 (by omega)).wr W51 (by omega)).wr W53 (by omega)).wr W55 (by omega)).wr W57 (by omega)).wr W59 (by omega)).wr W61 (by omega)).wr W63 (by omega)).wr W65 (by omega)).wr W67 (by omega)).wr W69 (by omega)).wr W71 (by omega)).wr W73 (by omega)).wr W75 (by omega)).wr W77 (by omega)).wr W79 (by omega)).wr W81 (by omega)).wr W83 (by omega)).wr W85 (by omega)).wr W87 (by omega)).wr W89 (by omega)).wr W91 (by omega)).wr W93 (by omega)).2) at_335 (q := 338) rfl ?_
                refine gs (mkF m 340 #[.val (.int p1), .val (.int p2), .val (.int p3), .val (.int p4), .val (.int cc), .val (.int bs), .val (.int (0 : Int32)), .val (.int (0 : Int32)), .val (.ref b21), .val (.int pp), .val (.int (og bs pp)), .val (.int (0 : Int32)), .val (.int bs), .val (.ref e0)] []) (fun T A t k => XS.astore A B.x rfl (B.d at_338) rfl rfl (l' := #[.val (.int p1), .val (.int p2), .val (.int p3), .val (.int p4), .val (.int cc), .val (.int bs), .val (.int (0 : Int32)), .val (.int (0 : Int32)), .val (.ref b21), .val (.int pp), .val (.int (og bs pp)), .val (.int (0 : Int32)), .val (.int bs), .val (.ref e0)]) rfl k) ?_
                refine gs (mkF m 361 _ []) (fun T A t k => XS.goto A B.x rfl (pc0 := 340) (pc' := 361) rfl (B.d at_340) (by decide) (by decide) k) ?_
                refine g_newO B (hw _ (List.mem_of_getElem? (i := 2) rfl)) (hw _ (List.mem_of_getElem? (i := 3) rfl)) (hw _ (List.mem_of_getElem? (i := 4) rfl)) at_361 (by decide) (by decide) (q := 364) rfl ?_
                intro h113 b113 g113 E113 S113 A113 D113
                refine g_wt (fun Wt114 => ?_)
                have z113 := E113.1; have y113 : @LT.lt Nat _ b113 h113.size := A113.lt
                have F113_coder : Fld Z h113 b113 "java/lang/String" "coder" "B" (.int (0 : Int32)) := D113 (Or.inr (hw _ (List.mem_of_getElem? (i := 28) rfl))) (ty := .byte) (by decide)
                have F113_value : Fld Z h113 b113 "java/lang/String" "value" "[B" .null := D113 (Or.inr (hw _ (List.mem_of_getElem? (i := 30) rfl))) (ty := (.array .byte)) (by decide)
                refine gs (mkF m 365 _ [(.ref b113), (.ref b113)]) (fun T A t k => XS.dup A B.x rfl (B.d at_364) rfl rfl k) ?_
                refine gs (mkF m 367 _ [(.ref b21), (.ref b113), (.ref b113)]) (fun T A t k => XS.aload A B.x rfl (B.d at_365) rfl rfl k) ?_
                refine g_pay (Q' := fun v h' L => v = none ∧ Fr n0 L ∧ Keep h113 h' [b113] ∧ ∃ t : Addr, @Eq Nat t h113.size ∧ Str Z h' b113 t (inv bs)) (k := 1) (n := 35) (c_init B rfl (hw _ (List.mem_of_getElem? (i := 5) rfl)) (hw _ (List.mem_of_getElem? (i := 6) rfl)) (hw _ (List.mem_of_getElem? (i := 7) rfl)) (by decide) rfl (lenOf pd_285bC29V rfl) rfl (Nat.le_of_eq rfl) at_367 rfl (argsL := [(.ref b21)]) (rest := [(.ref b113)]) (W := 1) (q := 370)) (fun hZ => own_new (inv bs) 35 hZ (fun d hd => hw d (own_wnew d hd)) (hw _ (List.mem_of_getElem? (i := 3) rfl)) (n0 := n0) (by omega) (by omega) A113 F113_value F113_coder (VC.ext E113) (SC.ext ((((((((((((((((((((((((((((((((((((((PO.ext E21).wr W23 (by omega)).wr W25 (by omega)).wr W27 (by omega)).wr W29 (by omega)).wr W31 (by omega)).wr W33 (by omega)).wr W35 (by omega)).wr W37 (by omega)).wr W39 (by omega)).wr W41 (by omega)).wr W43 (by omega)).wr W45 (by omega)).wr W47 (by omega)).wr W49 (by omega)).wr W51 (by omega)).wr W53 (by omega)).wr W55 (by omega)).wr W57 (by omega)).wr W59 (by omega)).wr W61 (by omega)).wr W63 (by omega)).wr W65 (by omega)).wr W67 (by omega)).wr W69 (by omega)).wr W71 (by omega)).wr W73 (by omega)).wr W75 (by omega)).wr W77 (by omega)).wr W79 (by omega)).wr W81 (by omega)).wr W83 (by omega)).wr W85 (by omega)).wr W87 (by omega)).wr W89 (by omega)).wr W91 (by omega)).wr W93 (by omega)).ext E113).2) hzc rfl rfl (by decide) (by decide) (inv_r8 hb8) (by decide) (by decide)) (by decide) (by decide) (fun v h' L q => ⟨q.2.1, [b113], q.2.2.1, fun z hz => by cases List.mem_singleton.mp hz; exact S113⟩) ?_
                rintro v115 h115 L115 ⟨rfl, -, K115, t115, e115, X115⟩
                refine g_wt (fun Wt116 => ?_)
                have z115 := K115.1; have y115 := X115.lt; have x115 := X115.lt'
                refine g_met hEL (c_static B (hw _ (List.mem_of_getElem? (i := 31) rfl)) (hw _ (List.mem_of_getElem? (i := 32) rfl)) (hw _ (List.mem_of_getElem? (i := 33) rfl)) (hw _ (List.mem_of_getElem? (i := 34) rfl)) (by decide) rfl (lenOf pd_28Ljava2flang2fString3b29Lcom2fexample2faffixity2faffixity2focfl2fOcflVersion3b rfl) rfl (Nat.le_of_eq rfl) at_370 rfl (argsL := [(.ref b113)]) (rest := []) (W := 0) (q := 373)) (w_of l Z a0 hw hEL b113 va kv e0 e1 s0 s1 t0 t1 zc rv t115 (inv bs) h115 n0 X115 PE (by omega) PX (((((((((((((((((((((((((((((((((((((((PO.ext E21).wr W23 (by omega)).wr W25 (by omega)).wr W27 (by omega)).wr W29 (by omega)).wr W31 (by omega)).wr W33 (by omega)).wr W35 (by omega)).wr W37 (by omega)).wr W39 (by omega)).wr W41 (by omega)).wr W43 (by omega)).wr W45 (by omega)).wr W47 (by omega)).wr W49 (by omega)).wr W51 (by omega)).wr W53 (by omega)).wr W55 (by omega)).wr W57 (by omega)).wr W59 (by omega)).wr W61 (by omega)).wr W63 (by omega)).wr W65 (by omega)).wr W67 (by omega)).wr W69 (by omega)).wr W71 (by omega)).wr W73 (by omega)).wr W75 (by omega)).wr W77 (by omega)).wr W79 (by omega)).wr W81 (by omega)).wr W83 (by omega)).wr W85 (by omega)).wr W87 (by omega)).wr W89 (by omega)).wr W91 (by omega)).wr W93 (by omega)).ext E113).keep K115 (allS (by omega) all0))) (hw _ (List.mem_of_getElem? (i := 34) rfl)) (hw _ (List.mem_of_getElem? (i := 33) rfl)) (by decide) (by decide) (by decide) (by decide) (fun _ q => nomatch q) ?_
                intro v117 h117 vm117 hZ117 C117 hQ117
                obtain ⟨ev117, K117⟩ := hQ117
                rw [show ofV e0 e1 (inv bs) = (.ref e0) from (by rw [h48]; exact of_48 _ _)] at ev117; subst ev117
                refine g_wt (fun Wt118 => ?_)
                refine gs (mkF m 375 _ [(.ref e0), (.ref e0)]) (fun T A t k => XS.aload A B.x rfl (B.d at_373) rfl rfl k) ?_
                refine g_acmp B rfl rfl at_375 (same := true) (decide_eq_true rfl) (by decide) (q := 378) (by decide) ?_
                refine gs (mkF m 379 _ [(.int (1 : Int32))]) (fun T A t k => XS.iconst A B.x rfl (B.d at_378) k) ?_
                refine gs (mkF m 383 _ [(.int (1 : Int32))]) (fun T A t k => XS.goto A B.x rfl (pc0 := 379) (pc' := 383) rfl (B.d at_379) (by decide) (by decide) k) ?_
                exact g_retN (t := .boolean) B (by simp) at_383 (by decide) (by decide) rfl
              · refine gs (mkF m 343 _ []) (fun T A t k => XS.icmpYes A B.x rfl (pc0 := 332) (pc' := 343) rfl (B.d at_332) rfl (feq (h48 : ¬ (bs = (48 : Int32)))).2 (by decide) (by decide) k) ?_
                have h49 : bs = (49 : Int32) := h_bs.resolve_left h48
                refine gs (mkF m 345 _ [(.int bs)]) (fun T A t k => XS.iload A B.x rfl (B.d at_343) rfl k) ?_
                refine gs (mkF m 347 _ [(.int (49 : Int32)), (.int bs)]) (fun T A t k => XS.bipush A B.x rfl (B.d at_345) k) ?_
                refine gs (mkF m 350 _ []) (fun T A t k => XS.icmpNo A B.x rfl (B.d at_347) rfl (teq (h49 : bs = (49 : Int32))).2 k) ?_
                refine g_getS B (hw _ (List.mem_of_getElem? (i := 213) rfl)) (S1.ext (((((((((((((((((((((((((((((((((((((PO.ext E21).wr W23 (by omega)).wr W25 (by omega)).wr W27 (by omega)).wr W29 (by omega)).wr W31 (by omega)).wr W33 (by omega)).wr W35 (by omega)).wr W37 (by omega)).wr W39 (by omega)).wr W41 (by omega)).wr W43 (by omega)).wr W45 (by omega)).wr W47 (by omega)).wr W49 (by omega)).wr W51 (by omega)).wr W53 (by omega)).wr W55 (by omega)).wr W57 (by omega)).wr W59 (by omega)).wr W61 (by omega)).wr W63 (by omega)).wr W65 (by omega)).wr W67 (by omega)).wr W69 (by omega)).wr W71 (by omega)).wr W73 (by omega)).wr W75 (by omega)).wr W77 (by omega)).wr W79 (by omega)).wr W81 (by omega)).wr W83 (by omega)).wr W85 (by omega)).wr W87 (by omega)).wr W89 (by omega)).wr W91 (by omega)).wr W93 (by omega)).2) at_350 (q := 353) rfl ?_
                refine gs (mkF m 355 #[.val (.int p1), .val (.int p2), .val (.int p3), .val (.int p4), .val (.int cc), .val (.int bs), .val (.int (0 : Int32)), .val (.int (0 : Int32)), .val (.ref b21), .val (.int pp), .val (.int (og bs pp)), .val (.int (0 : Int32)), .val (.int bs), .val (.ref e1)] []) (fun T A t k => XS.astore A B.x rfl (B.d at_353) rfl rfl (l' := #[.val (.int p1), .val (.int p2), .val (.int p3), .val (.int p4), .val (.int cc), .val (.int bs), .val (.int (0 : Int32)), .val (.int (0 : Int32)), .val (.ref b21), .val (.int pp), .val (.int (og bs pp)), .val (.int (0 : Int32)), .val (.int bs), .val (.ref e1)]) rfl k) ?_
                refine gs (mkF m 361 _ []) (fun T A t k => XS.goto A B.x rfl (pc0 := 355) (pc' := 361) rfl (B.d at_355) (by decide) (by decide) k) ?_
                refine g_newO B (hw _ (List.mem_of_getElem? (i := 2) rfl)) (hw _ (List.mem_of_getElem? (i := 3) rfl)) (hw _ (List.mem_of_getElem? (i := 4) rfl)) at_361 (by decide) (by decide) (q := 364) rfl ?_
                intro h119 b119 g119 E119 S119 A119 D119
                refine g_wt (fun Wt120 => ?_)
                have z119 := E119.1; have y119 : @LT.lt Nat _ b119 h119.size := A119.lt
                have F119_coder : Fld Z h119 b119 "java/lang/String" "coder" "B" (.int (0 : Int32)) := D119 (Or.inr (hw _ (List.mem_of_getElem? (i := 28) rfl))) (ty := .byte) (by decide)
                have F119_value : Fld Z h119 b119 "java/lang/String" "value" "[B" .null := D119 (Or.inr (hw _ (List.mem_of_getElem? (i := 30) rfl))) (ty := (.array .byte)) (by decide)
                refine gs (mkF m 365 _ [(.ref b119), (.ref b119)]) (fun T A t k => XS.dup A B.x rfl (B.d at_364) rfl rfl k) ?_
                refine gs (mkF m 367 _ [(.ref b21), (.ref b119), (.ref b119)]) (fun T A t k => XS.aload A B.x rfl (B.d at_365) rfl rfl k) ?_
                refine g_pay (Q' := fun v h' L => v = none ∧ Fr n0 L ∧ Keep h119 h' [b119] ∧ ∃ t : Addr, @Eq Nat t h119.size ∧ Str Z h' b119 t (inv bs)) (k := 1) (n := 35) (c_init B rfl (hw _ (List.mem_of_getElem? (i := 5) rfl)) (hw _ (List.mem_of_getElem? (i := 6) rfl)) (hw _ (List.mem_of_getElem? (i := 7) rfl)) (by decide) rfl (lenOf pd_285bC29V rfl) rfl (Nat.le_of_eq rfl) at_367 rfl (argsL := [(.ref b21)]) (rest := [(.ref b119)]) (W := 1) (q := 370)) (fun hZ => own_new (inv bs) 35 hZ (fun d hd => hw d (own_wnew d hd)) (hw _ (List.mem_of_getElem? (i := 3) rfl)) (n0 := n0) (by omega) (by omega) A119 F119_value F119_coder (VC.ext E119) (SC.ext ((((((((((((((((((((((((((((((((((((((PO.ext E21).wr W23 (by omega)).wr W25 (by omega)).wr W27 (by omega)).wr W29 (by omega)).wr W31 (by omega)).wr W33 (by omega)).wr W35 (by omega)).wr W37 (by omega)).wr W39 (by omega)).wr W41 (by omega)).wr W43 (by omega)).wr W45 (by omega)).wr W47 (by omega)).wr W49 (by omega)).wr W51 (by omega)).wr W53 (by omega)).wr W55 (by omega)).wr W57 (by omega)).wr W59 (by omega)).wr W61 (by omega)).wr W63 (by omega)).wr W65 (by omega)).wr W67 (by omega)).wr W69 (by omega)).wr W71 (by omega)).wr W73 (by omega)).wr W75 (by omega)).wr W77 (by omega)).wr W79 (by omega)).wr W81 (by omega)).wr W83 (by omega)).wr W85 (by omega)).wr W87 (by omega)).wr W89 (by omega)).wr W91 (by omega)).wr W93 (by omega)).ext E119).2) hzc rfl rfl (by decide) (by decide) (inv_r8 hb8) (by decide) (by decide)) (by decide) (by decide) (fun v h' L q => ⟨q.2.1, [b119], q.2.2.1, fun z hz => by cases List.mem_singleton.mp hz; exact S119⟩) ?_
                rintro v121 h121 L121 ⟨rfl, -, K121, t121, e121, X121⟩
                refine g_wt (fun Wt122 => ?_)
                have z121 := K121.1; have y121 := X121.lt; have x121 := X121.lt'
                refine g_met hEL (c_static B (hw _ (List.mem_of_getElem? (i := 31) rfl)) (hw _ (List.mem_of_getElem? (i := 32) rfl)) (hw _ (List.mem_of_getElem? (i := 33) rfl)) (hw _ (List.mem_of_getElem? (i := 34) rfl)) (by decide) rfl (lenOf pd_28Ljava2flang2fString3b29Lcom2fexample2faffixity2faffixity2focfl2fOcflVersion3b rfl) rfl (Nat.le_of_eq rfl) at_370 rfl (argsL := [(.ref b119)]) (rest := []) (W := 0) (q := 373)) (w_of l Z a0 hw hEL b119 va kv e0 e1 s0 s1 t0 t1 zc rv t121 (inv bs) h121 n0 X121 PE (by omega) PX (((((((((((((((((((((((((((((((((((((((PO.ext E21).wr W23 (by omega)).wr W25 (by omega)).wr W27 (by omega)).wr W29 (by omega)).wr W31 (by omega)).wr W33 (by omega)).wr W35 (by omega)).wr W37 (by omega)).wr W39 (by omega)).wr W41 (by omega)).wr W43 (by omega)).wr W45 (by omega)).wr W47 (by omega)).wr W49 (by omega)).wr W51 (by omega)).wr W53 (by omega)).wr W55 (by omega)).wr W57 (by omega)).wr W59 (by omega)).wr W61 (by omega)).wr W63 (by omega)).wr W65 (by omega)).wr W67 (by omega)).wr W69 (by omega)).wr W71 (by omega)).wr W73 (by omega)).wr W75 (by omega)).wr W77 (by omega)).wr W79 (by omega)).wr W81 (by omega)).wr W83 (by omega)).wr W85 (by omega)).wr W87 (by omega)).wr W89 (by omega)).wr W91 (by omega)).wr W93 (by omega)).ext E119).keep K121 (allS (by omega) all0))) (hw _ (List.mem_of_getElem? (i := 34) rfl)) (hw _ (List.mem_of_getElem? (i := 33) rfl)) (by decide) (by decide) (by decide) (by decide) (fun _ q => nomatch q) ?_
                intro v123 h123 vm123 hZ123 C123 hQ123
                obtain ⟨ev123, K123⟩ := hQ123
                rw [show ofV e0 e1 (inv bs) = (.ref e1) from (by rw [h49]; exact of_49 _ _)] at ev123; subst ev123
                refine g_wt (fun Wt124 => ?_)
                refine gs (mkF m 375 _ [(.ref e1), (.ref e1)]) (fun T A t k => XS.aload A B.x rfl (B.d at_373) rfl rfl k) ?_
                refine g_acmp B rfl rfl at_375 (same := true) (decide_eq_true rfl) (by decide) (q := 378) (by decide) ?_
                refine gs (mkF m 379 _ [(.int (1 : Int32))]) (fun T A t k => XS.iconst A B.x rfl (B.d at_378) k) ?_
                refine gs (mkF m 383 _ [(.int (1 : Int32))]) (fun T A t k => XS.goto A B.x rfl (pc0 := 379) (pc' := 383) rfl (B.d at_379) (by decide) (by decide) k) ?_
                exact g_retN (t := .boolean) B (by simp) at_383 (by decide) (by decide) rfl
            · refine gs (mkF m 303 _ []) (fun T A t k => XS.icmpNo A B.x rfl (B.d at_300) rfl (feq (hog : ¬ (cc = (og bs pp)))).1 k) ?_
              refine gs (mkF m 304 _ [(.int (1 : Int32))]) (fun T A t k => XS.iconst A B.x rfl (B.d at_303) k) ?_
              refine gs (mkF m 308 _ [(.int (1 : Int32))]) (fun T A t k => XS.goto A B.x rfl (pc0 := 304) (pc' := 308) rfl (B.d at_304) (by decide) (by decide) k) ?_
              refine gs (mkF m 310 #[.val (.int p1), .val (.int p2), .val (.int p3), .val (.int p4), .val (.int cc), .val (.int bs), .val (.int (0 : Int32)), .val (.int (0 : Int32)), .val (.ref b21), .val (.int pp), .val (.int (og bs pp)), .val (.int (1 : Int32)), .unset, .unset] []) (fun T A t k => XS.istore A B.x rfl (B.d at_308) rfl (l' := #[.val (.int p1), .val (.int p2), .val (.int p3), .val (.int p4), .val (.int cc), .val (.int bs), .val (.int (0 : Int32)), .val (.int (0 : Int32)), .val (.ref b21), .val (.int pp), .val (.int (og bs pp)), .val (.int (1 : Int32)), .unset, .unset]) rfl k) ?_
              refine gs (mkF m 312 _ [(.ref b21)]) (fun T A t k => XS.aload A B.x rfl (B.d at_310) rfl rfl k) ?_
              refine gs (mkF m 314 _ [(.int (18 : Int32)), (.ref b21)]) (fun T A t k => XS.bipush A B.x rfl (B.d at_312) k) ?_
              refine g_ldC B VS ⟨by decide, by decide⟩ (v := (.int (((inv bs).set pp.toNatClampNeg cc).getD (18 : Int32).toNatClampNeg 0))) (vget _ _) at_314 (q := 315) rfl ?_
              refine gs (mkF m 317 #[.val (.int p1), .val (.int p2), .val (.int p3), .val (.int p4), .val (.int cc), .val (.int bs), .val (.int (0 : Int32)), .val (.int (0 : Int32)), .val (.ref b21), .val (.int pp), .val (.int (og bs pp)), .val (.int (1 : Int32)), .val (.int (((inv bs).set pp.toNatClampNeg cc).getD (18 : Int32).toNatClampNeg 0)), .unset] []) (fun T A t k => XS.istore A B.x rfl (B.d at_315) rfl (l' := #[.val (.int p1), .val (.int p2), .val (.int p3), .val (.int p4), .val (.int cc), .val (.int bs), .val (.int (0 : Int32)), .val (.int (0 : Int32)), .val (.ref b21), .val (.int pp), .val (.int (og bs pp)), .val (.int (1 : Int32)), .val (.int (((inv bs).set pp.toNatClampNeg cc).getD (18 : Int32).toNatClampNeg 0)), .unset]) rfl k) ?_
              refine gs (mkF m 319 _ [(.int (1 : Int32))]) (fun T A t k => XS.iload A B.x rfl (B.d at_317) rfl k) ?_
              refine gs (mkF m 322 _ []) (fun T A t k => XS.ifNo A B.x rfl (B.d at_319) rfl ((if0 _ _).trans (feq (by decide : ¬ ((1 : Int32) = (0 : Int32)))).1) k) ?_
              refine gs (mkF m 323 _ [.null]) (fun T A t k => XS.aconstNull A B.x rfl (B.d at_322) k) ?_
              refine gs (mkF m 325 #[.val (.int p1), .val (.int p2), .val (.int p3), .val (.int p4), .val (.int cc), .val (.int bs), .val (.int (0 : Int32)), .val (.int (0 : Int32)), .val (.ref b21), .val (.int pp), .val (.int (og bs pp)), .val (.int (1 : Int32)), .val (.int (((inv bs).set pp.toNatClampNeg cc).getD (18 : Int32).toNatClampNeg 0)), .val .null] []) (fun T A t k => XS.astore A B.x rfl (B.d at_323) rfl rfl (l' := #[.val (.int p1), .val (.int p2), .val (.int p3), .val (.int p4), .val (.int cc), .val (.int bs), .val (.int (0 : Int32)), .val (.int (0 : Int32)), .val (.ref b21), .val (.int pp), .val (.int (og bs pp)), .val (.int (1 : Int32)), .val (.int (((inv bs).set pp.toNatClampNeg cc).getD (18 : Int32).toNatClampNeg 0)), .val .null]) rfl k) ?_
              refine gs (mkF m 361 _ []) (fun T A t k => XS.goto A B.x rfl (pc0 := 325) (pc' := 361) rfl (B.d at_325) (by decide) (by decide) k) ?_
              refine g_newO B (hw _ (List.mem_of_getElem? (i := 2) rfl)) (hw _ (List.mem_of_getElem? (i := 3) rfl)) (hw _ (List.mem_of_getElem? (i := 4) rfl)) at_361 (by decide) (by decide) (q := 364) rfl ?_
              intro h125 b125 g125 E125 S125 A125 D125
              refine g_wt (fun Wt126 => ?_)
              have z125 := E125.1; have y125 : @LT.lt Nat _ b125 h125.size := A125.lt
              have F125_coder : Fld Z h125 b125 "java/lang/String" "coder" "B" (.int (0 : Int32)) := D125 (Or.inr (hw _ (List.mem_of_getElem? (i := 28) rfl))) (ty := .byte) (by decide)
              have F125_value : Fld Z h125 b125 "java/lang/String" "value" "[B" .null := D125 (Or.inr (hw _ (List.mem_of_getElem? (i := 30) rfl))) (ty := (.array .byte)) (by decide)
              refine gs (mkF m 365 _ [(.ref b125), (.ref b125)]) (fun T A t k => XS.dup A B.x rfl (B.d at_364) rfl rfl k) ?_
              refine gs (mkF m 367 _ [(.ref b21), (.ref b125), (.ref b125)]) (fun T A t k => XS.aload A B.x rfl (B.d at_365) rfl rfl k) ?_
              refine g_pay (Q' := fun v h' L => v = none ∧ Fr n0 L ∧ Keep h125 h' [b125] ∧ ∃ t : Addr, @Eq Nat t h125.size ∧ Str Z h' b125 t ((inv bs).set pp.toNatClampNeg cc)) (k := 1) (n := 35) (c_init B rfl (hw _ (List.mem_of_getElem? (i := 5) rfl)) (hw _ (List.mem_of_getElem? (i := 6) rfl)) (hw _ (List.mem_of_getElem? (i := 7) rfl)) (by decide) rfl (lenOf pd_285bC29V rfl) rfl (Nat.le_of_eq rfl) at_367 rfl (argsL := [(.ref b21)]) (rest := [(.ref b125)]) (W := 1) (q := 370)) (fun hZ => own_new ((inv bs).set pp.toNatClampNeg cc) 35 hZ (fun d hd => hw d (own_wnew d hd)) (hw _ (List.mem_of_getElem? (i := 3) rfl)) (n0 := n0) (by omega) (by omega) A125 F125_value F125_coder (VS.ext E125) (SC.ext ((((((((((((((((((((((((((((((((((((((PO.ext E21).wr W23 (by omega)).wr W25 (by omega)).wr W27 (by omega)).wr W29 (by omega)).wr W31 (by omega)).wr W33 (by omega)).wr W35 (by omega)).wr W37 (by omega)).wr W39 (by omega)).wr W41 (by omega)).wr W43 (by omega)).wr W45 (by omega)).wr W47 (by omega)).wr W49 (by omega)).wr W51 (by omega)).wr W53 (by omega)).wr W55 (by omega)).wr W57 (by omega)).wr W59 (by omega)).wr W61 (by omega)).wr W63 (by omega)).wr W65 (by omega)).wr W67 (by omega)).wr W69 (by omega)).wr W71 (by omega)).wr W73 (by omega)).wr W75 (by omega)).wr W77 (by omega)).wr W79 (by omega)).wr W81 (by omega)).wr W83 (by omega)).wr W85 (by omega)).wr W87 (by omega)).wr W89 (by omega)).wr W91 (by omega)).wr W93 (by omega)).ext E125).2) hzc (by rw [List.length_set]; rfl) rfl (by decide) (by decide) (r8_all (P := fun c => ¬ c < 0 ∧ ¬ (255 : Int32) < c) (inv_r8 hb8) hcc) (by decide) (by decide)) (by decide) (by decide) (fun v h' L q => ⟨q.2.1, [b125], q.2.2.1, fun z hz => by cases List.mem_singleton.mp hz; exact S125⟩) ?_
              rintro v127 h127 L127 ⟨rfl, -, K127, t127, e127, X127⟩
              refine g_wt (fun Wt128 => ?_)
              have z127 := K127.1; have y127 := X127.lt; have x127 := X127.lt'
              refine g_met hEL (c_static B (hw _ (List.mem_of_getElem? (i := 31) rfl)) (hw _ (List.mem_of_getElem? (i := 32) rfl)) (hw _ (List.mem_of_getElem? (i := 33) rfl)) (hw _ (List.mem_of_getElem? (i := 34) rfl)) (by decide) rfl (lenOf pd_28Ljava2flang2fString3b29Lcom2fexample2faffixity2faffixity2focfl2fOcflVersion3b rfl) rfl (Nat.le_of_eq rfl) at_370 rfl (argsL := [(.ref b125)]) (rest := []) (W := 0) (q := 373)) (w_of l Z a0 hw hEL b125 va kv e0 e1 s0 s1 t0 t1 zc rv t127 ((inv bs).set pp.toNatClampNeg cc) h127 n0 X127 PE (by omega) PX (((((((((((((((((((((((((((((((((((((((PO.ext E21).wr W23 (by omega)).wr W25 (by omega)).wr W27 (by omega)).wr W29 (by omega)).wr W31 (by omega)).wr W33 (by omega)).wr W35 (by omega)).wr W37 (by omega)).wr W39 (by omega)).wr W41 (by omega)).wr W43 (by omega)).wr W45 (by omega)).wr W47 (by omega)).wr W49 (by omega)).wr W51 (by omega)).wr W53 (by omega)).wr W55 (by omega)).wr W57 (by omega)).wr W59 (by omega)).wr W61 (by omega)).wr W63 (by omega)).wr W65 (by omega)).wr W67 (by omega)).wr W69 (by omega)).wr W71 (by omega)).wr W73 (by omega)).wr W75 (by omega)).wr W77 (by omega)).wr W79 (by omega)).wr W81 (by omega)).wr W83 (by omega)).wr W85 (by omega)).wr W87 (by omega)).wr W89 (by omega)).wr W91 (by omega)).wr W93 (by omega)).ext E125).keep K127 (allS (by omega) all0))) (hw _ (List.mem_of_getElem? (i := 34) rfl)) (hw _ (List.mem_of_getElem? (i := 33) rfl)) (by decide) (by decide) (by decide) (by decide) (fun _ q => nomatch q) ?_
              intro v129 h129 vm129 hZ129 C129 hQ129
              obtain ⟨ev129, K129⟩ := hQ129
              rw [show ofV e0 e1 ((inv bs).set pp.toNatClampNeg cc) = .null from (of_set _ _ hne hi hog)] at ev129; subst ev129
              refine g_wt (fun Wt130 => ?_)
              refine gs (mkF m 375 _ [.null, .null]) (fun T A t k => XS.aload A B.x rfl (B.d at_373) rfl rfl k) ?_
              refine g_acmp B rfl rfl at_375 (same := true) (decide_eq_true rfl) (by decide) (q := 378) (by decide) ?_
              refine gs (mkF m 379 _ [(.int (1 : Int32))]) (fun T A t k => XS.iconst A B.x rfl (B.d at_378) k) ?_
              refine gs (mkF m 383 _ [(.int (1 : Int32))]) (fun T A t k => XS.goto A B.x rfl (pc0 := 379) (pc' := 383) rfl (B.d at_379) (by decide) (by decide) k) ?_
              exact g_retN (t := .boolean) B (by simp) at_383 (by decide) (by decide) rfl
        · refine gs (mkF m 284 _ []) (fun T A t k => XS.ifYes A B.x rfl (pc0 := 274) (pc' := 284) rfl (B.d at_274) rfl ((if0 _ _).trans (feq (by decide : ¬ ((1 : Int32) = (0 : Int32)))).2) (by decide) (by decide) k) ?_
          refine gs (mkF m 286 _ [(.int (1 : Int32))]) (fun T A t k => XS.iload A B.x rfl (B.d at_284) rfl k) ?_
          refine gs (mkF m 307 _ []) (fun T A t k => XS.ifYes A B.x rfl (pc0 := 286) (pc' := 307) rfl (B.d at_286) rfl ((if0 _ _).trans (feq (by decide : ¬ ((1 : Int32) = (0 : Int32)))).2) (by decide) (by decide) k) ?_
          refine gs (mkF m 308 _ [(.int (0 : Int32))]) (fun T A t k => XS.iconst A B.x rfl (B.d at_307) k) ?_
          refine gs (mkF m 310 #[.val (.int p1), .val (.int p2), .val (.int p3), .val (.int p4), .val (.int cc), .val (.int bs), .val (.int (1 : Int32)), .val (.int (0 : Int32)), .val (.ref b21), .val (.int pp), .val (.int (og bs pp)), .val (.int (0 : Int32)), .unset, .unset] []) (fun T A t k => XS.istore A B.x rfl (B.d at_308) rfl (l' := #[.val (.int p1), .val (.int p2), .val (.int p3), .val (.int p4), .val (.int cc), .val (.int bs), .val (.int (1 : Int32)), .val (.int (0 : Int32)), .val (.ref b21), .val (.int pp), .val (.int (og bs pp)), .val (.int (0 : Int32)), .unset, .unset]) rfl k) ?_
          refine gs (mkF m 312 _ [(.ref b21)]) (fun T A t k => XS.aload A B.x rfl (B.d at_310) rfl rfl k) ?_
          refine gs (mkF m 314 _ [(.int (18 : Int32)), (.ref b21)]) (fun T A t k => XS.bipush A B.x rfl (B.d at_312) k) ?_
          refine g_ldC B VL ⟨by decide, by decide⟩ (v := (.int bs)) rfl at_314 (q := 315) rfl ?_
          refine gs (mkF m 317 #[.val (.int p1), .val (.int p2), .val (.int p3), .val (.int p4), .val (.int cc), .val (.int bs), .val (.int (1 : Int32)), .val (.int (0 : Int32)), .val (.ref b21), .val (.int pp), .val (.int (og bs pp)), .val (.int (0 : Int32)), .val (.int bs), .unset] []) (fun T A t k => XS.istore A B.x rfl (B.d at_315) rfl (l' := #[.val (.int p1), .val (.int p2), .val (.int p3), .val (.int p4), .val (.int cc), .val (.int bs), .val (.int (1 : Int32)), .val (.int (0 : Int32)), .val (.ref b21), .val (.int pp), .val (.int (og bs pp)), .val (.int (0 : Int32)), .val (.int bs), .unset]) rfl k) ?_
          refine gs (mkF m 319 _ [(.int (0 : Int32))]) (fun T A t k => XS.iload A B.x rfl (B.d at_317) rfl k) ?_
          refine gs (mkF m 328 _ []) (fun T A t k => XS.ifYes A B.x rfl (pc0 := 319) (pc' := 328) rfl (B.d at_319) rfl ((if0 _ _).trans (teq (by decide : (0 : Int32) = (0 : Int32))).1) (by decide) (by decide) k) ?_
          refine gs (mkF m 330 _ [(.int bs)]) (fun T A t k => XS.iload A B.x rfl (B.d at_328) rfl k) ?_
          refine gs (mkF m 332 _ [(.int (48 : Int32)), (.int bs)]) (fun T A t k => XS.bipush A B.x rfl (B.d at_330) k) ?_
          by_cases h48 : bs = (48 : Int32)
          · refine gs (mkF m 335 _ []) (fun T A t k => XS.icmpNo A B.x rfl (B.d at_332) rfl (teq (h48 : bs = (48 : Int32))).2 k) ?_
            refine g_getS B (hw _ (List.mem_of_getElem? (i := 200) rfl)) (S0.ext ((((((((((((((((((((((((((((((((((((PO.ext E21).wr W23 (by omega)).wr W25 (by omega)).wr W27 (by omega)).wr W29 (by omega)).wr W31 (by omega)).wr W33 (by omega)).wr W35 (by omega)).wr W37 (by omega)).wr W39 (by omega)).wr W41 (by omega)).wr W43 (by omega)).wr W45 (by omega)).wr W47 (by omega)).wr W49 (by omega)).wr W51 (by omega)).wr W53 (by omega)).wr W55 (by omega)).wr W57 (by omega)).wr W59 (by omega)).wr W61 (by omega)).wr W63 (by omega)).wr W65 (by omega)).wr W67 (by omega)).wr W69 (by omega)).wr W71 (by omega)).wr W73 (by omega)).wr W75 (by omega)).wr W77 (by omega)).wr W79 (by omega)).wr W81 (by omega)).wr W83 (by omega)).wr W85 (by omega)).wr W87 (by omega)).wr W89 (by omega)).wr W91 (by omega)).2) at_335 (q := 338) rfl ?_
            refine gs (mkF m 340 #[.val (.int p1), .val (.int p2), .val (.int p3), .val (.int p4), .val (.int cc), .val (.int bs), .val (.int (1 : Int32)), .val (.int (0 : Int32)), .val (.ref b21), .val (.int pp), .val (.int (og bs pp)), .val (.int (0 : Int32)), .val (.int bs), .val (.ref e0)] []) (fun T A t k => XS.astore A B.x rfl (B.d at_338) rfl rfl (l' := #[.val (.int p1), .val (.int p2), .val (.int p3), .val (.int p4), .val (.int cc), .val (.int bs), .val (.int (1 : Int32)), .val (.int (0 : Int32)), .val (.ref b21), .val (.int pp), .val (.int (og bs pp)), .val (.int (0 : Int32)), .val (.int bs), .val (.ref e0)]) rfl k) ?_
            refine gs (mkF m 361 _ []) (fun T A t k => XS.goto A B.x rfl (pc0 := 340) (pc' := 361) rfl (B.d at_340) (by decide) (by decide) k) ?_
            refine g_newO B (hw _ (List.mem_of_getElem? (i := 2) rfl)) (hw _ (List.mem_of_getElem? (i := 3) rfl)) (hw _ (List.mem_of_getElem? (i := 4) rfl)) at_361 (by decide) (by decide) (q := 364) rfl ?_
            intro h131 b131 g131 E131 S131 A131 D131
            refine g_wt (fun Wt132 => ?_)
            have z131 := E131.1; have y131 : @LT.lt Nat _ b131 h131.size := A131.lt
            have F131_coder : Fld Z h131 b131 "java/lang/String" "coder" "B" (.int (0 : Int32)) := D131 (Or.inr (hw _ (List.mem_of_getElem? (i := 28) rfl))) (ty := .byte) (by decide)
            have F131_value : Fld Z h131 b131 "java/lang/String" "value" "[B" .null := D131 (Or.inr (hw _ (List.mem_of_getElem? (i := 30) rfl))) (ty := (.array .byte)) (by decide)
            refine gs (mkF m 365 _ [(.ref b131), (.ref b131)]) (fun T A t k => XS.dup A B.x rfl (B.d at_364) rfl rfl k) ?_
            refine gs (mkF m 367 _ [(.ref b21), (.ref b131), (.ref b131)]) (fun T A t k => XS.aload A B.x rfl (B.d at_365) rfl rfl k) ?_
            refine g_pay (Q' := fun v h' L => v = none ∧ Fr n0 L ∧ Keep h131 h' [b131] ∧ ∃ t : Addr, @Eq Nat t h131.size ∧ Str Z h' b131 t (inv bs)) (k := 1) (n := 35) (c_init B rfl (hw _ (List.mem_of_getElem? (i := 5) rfl)) (hw _ (List.mem_of_getElem? (i := 6) rfl)) (hw _ (List.mem_of_getElem? (i := 7) rfl)) (by decide) rfl (lenOf pd_285bC29V rfl) rfl (Nat.le_of_eq rfl) at_367 rfl (argsL := [(.ref b21)]) (rest := [(.ref b131)]) (W := 1) (q := 370)) (fun hZ => own_new (inv bs) 35 hZ (fun d hd => hw d (own_wnew d hd)) (hw _ (List.mem_of_getElem? (i := 3) rfl)) (n0 := n0) (by omega) (by omega) A131 F131_value F131_coder (VL.ext E131) (SC.ext (((((((((((((((((((((((((((((((((((((PO.ext E21).wr W23 (by omega)).wr W25 (by omega)).wr W27 (by omega)).wr W29 (by omega)).wr W31 (by omega)).wr W33 (by omega)).wr W35 (by omega)).wr W37 (by omega)).wr W39 (by omega)).wr W41 (by omega)).wr W43 (by omega)).wr W45 (by omega)).wr W47 (by omega)).wr W49 (by omega)).wr W51 (by omega)).wr W53 (by omega)).wr W55 (by omega)).wr W57 (by omega)).wr W59 (by omega)).wr W61 (by omega)).wr W63 (by omega)).wr W65 (by omega)).wr W67 (by omega)).wr W69 (by omega)).wr W71 (by omega)).wr W73 (by omega)).wr W75 (by omega)).wr W77 (by omega)).wr W79 (by omega)).wr W81 (by omega)).wr W83 (by omega)).wr W85 (by omega)).wr W87 (by omega)).wr W89 (by omega)).wr W91 (by omega)).ext E131).2) hzc rfl rfl (by decide) (by decide) (inv_r8 hb8) (by decide) (by decide)) (by decide) (by decide) (fun v h' L q => ⟨q.2.1, [b131], q.2.2.1, fun z hz => by cases List.mem_singleton.mp hz; exact S131⟩) ?_
            rintro v133 h133 L133 ⟨rfl, -, K133, t133, e133, X133⟩
            refine g_wt (fun Wt134 => ?_)
            have z133 := K133.1; have y133 := X133.lt; have x133 := X133.lt'
            refine g_met hEL (c_static B (hw _ (List.mem_of_getElem? (i := 31) rfl)) (hw _ (List.mem_of_getElem? (i := 32) rfl)) (hw _ (List.mem_of_getElem? (i := 33) rfl)) (hw _ (List.mem_of_getElem? (i := 34) rfl)) (by decide) rfl (lenOf pd_28Ljava2flang2fString3b29Lcom2fexample2faffixity2faffixity2focfl2fOcflVersion3b rfl) rfl (Nat.le_of_eq rfl) at_370 rfl (argsL := [(.ref b131)]) (rest := []) (W := 0) (q := 373)) (w_of l Z a0 hw hEL b131 va kv e0 e1 s0 s1 t0 t1 zc rv t133 (inv bs) h133 n0 X133 PE (by omega) PX ((((((((((((((((((((((((((((((((((((((PO.ext E21).wr W23 (by omega)).wr W25 (by omega)).wr W27 (by omega)).wr W29 (by omega)).wr W31 (by omega)).wr W33 (by omega)).wr W35 (by omega)).wr W37 (by omega)).wr W39 (by omega)).wr W41 (by omega)).wr W43 (by omega)).wr W45 (by omega)).wr W47 (by omega)).wr W49 (by omega)).wr W51 (by omega)).wr W53 (by omega)).wr W55 (by omega)).wr W57 (by omega)).wr W59 (by omega)).wr W61 (by omega)).wr W63 (by omega)).wr W65 (by omega)).wr W67 (by omega)).wr W69 (by omega)).wr W71 (by omega)).wr W73 (by omega)).wr W75 (by omega)).wr W77 (by omega)).wr W79 (by omega)).wr W81 (by omega)).wr W83 (by omega)).wr W85 (by omega)).wr W87 (by omega)).wr W89 (by omega)).wr W91 (by omega)).ext E131).keep K133 (allS (by omega) all0))) (hw _ (List.mem_of_getElem? (i := 34) rfl)) (hw _ (List.mem_of_getElem? (i := 33) rfl)) (by decide) (by decide) (by decide) (by decide) (fun _ q => nomatch q) ?_
            intro v135 h135 vm135 hZ135 C135 hQ135
            obtain ⟨ev135, K135⟩ := hQ135
            rw [show ofV e0 e1 (inv bs) = (.ref e0) from (by rw [h48]; exact of_48 _ _)] at ev135; subst ev135
            refine g_wt (fun Wt136 => ?_)
            refine gs (mkF m 375 _ [(.ref e0), (.ref e0)]) (fun T A t k => XS.aload A B.x rfl (B.d at_373) rfl rfl k) ?_
            refine g_acmp B rfl rfl at_375 (same := true) (decide_eq_true rfl) (by decide) (q := 378) (by decide) ?_
            refine gs (mkF m 379 _ [(.int (1 : Int32))]) (fun T A t k => XS.iconst A B.x rfl (B.d at_378) k) ?_
            refine gs (mkF m 383 _ [(.int (1 : Int32))]) (fun T A t k => XS.goto A B.x rfl (pc0 := 379) (pc' := 383) rfl (B.d at_379) (by decide) (by decide) k) ?_
            exact g_retN (t := .boolean) B (by simp) at_383 (by decide) (by decide) rfl
          · refine gs (mkF m 343 _ []) (fun T A t k => XS.icmpYes A B.x rfl (pc0 := 332) (pc' := 343) rfl (B.d at_332) rfl (feq (h48 : ¬ (bs = (48 : Int32)))).2 (by decide) (by decide) k) ?_
            have h49 : bs = (49 : Int32) := h_bs.resolve_left h48
            refine gs (mkF m 345 _ [(.int bs)]) (fun T A t k => XS.iload A B.x rfl (B.d at_343) rfl k) ?_
            refine gs (mkF m 347 _ [(.int (49 : Int32)), (.int bs)]) (fun T A t k => XS.bipush A B.x rfl (B.d at_345) k) ?_
            refine gs (mkF m 350 _ []) (fun T A t k => XS.icmpNo A B.x rfl (B.d at_347) rfl (teq (h49 : bs = (49 : Int32))).2 k) ?_
            refine g_getS B (hw _ (List.mem_of_getElem? (i := 213) rfl)) (S1.ext ((((((((((((((((((((((((((((((((((((PO.ext E21).wr W23 (by omega)).wr W25 (by omega)).wr W27 (by omega)).wr W29 (by omega)).wr W31 (by omega)).wr W33 (by omega)).wr W35 (by omega)).wr W37 (by omega)).wr W39 (by omega)).wr W41 (by omega)).wr W43 (by omega)).wr W45 (by omega)).wr W47 (by omega)).wr W49 (by omega)).wr W51 (by omega)).wr W53 (by omega)).wr W55 (by omega)).wr W57 (by omega)).wr W59 (by omega)).wr W61 (by omega)).wr W63 (by omega)).wr W65 (by omega)).wr W67 (by omega)).wr W69 (by omega)).wr W71 (by omega)).wr W73 (by omega)).wr W75 (by omega)).wr W77 (by omega)).wr W79 (by omega)).wr W81 (by omega)).wr W83 (by omega)).wr W85 (by omega)).wr W87 (by omega)).wr W89 (by omega)).wr W91 (by omega)).2) at_350 (q := 353) rfl ?_
            refine gs (mkF m 355 #[.val (.int p1), .val (.int p2), .val (.int p3), .val (.int p4), .val (.int cc), .val (.int bs), .val (.int (1 : Int32)), .val (.int (0 : Int32)), .val (.ref b21), .val (.int pp), .val (.int (og bs pp)), .val (.int (0 : Int32)), .val (.int bs), .val (.ref e1)] []) (fun T A t k => XS.astore A B.x rfl (B.d at_353) rfl rfl (l' := #[.val (.int p1), .val (.int p2), .val (.int p3), .val (.int p4), .val (.int cc), .val (.int bs), .val (.int (1 : Int32)), .val (.int (0 : Int32)), .val (.ref b21), .val (.int pp), .val (.int (og bs pp)), .val (.int (0 : Int32)), .val (.int bs), .val (.ref e1)]) rfl k) ?_
            refine gs (mkF m 361 _ []) (fun T A t k => XS.goto A B.x rfl (pc0 := 355) (pc' := 361) rfl (B.d at_355) (by decide) (by decide) k) ?_
            refine g_newO B (hw _ (List.mem_of_getElem? (i := 2) rfl)) (hw _ (List.mem_of_getElem? (i := 3) rfl)) (hw _ (List.mem_of_getElem? (i := 4) rfl)) at_361 (by decide) (by decide) (q := 364) rfl ?_
            intro h137 b137 g137 E137 S137 A137 D137
            refine g_wt (fun Wt138 => ?_)
            have z137 := E137.1; have y137 : @LT.lt Nat _ b137 h137.size := A137.lt
            have F137_coder : Fld Z h137 b137 "java/lang/String" "coder" "B" (.int (0 : Int32)) := D137 (Or.inr (hw _ (List.mem_of_getElem? (i := 28) rfl))) (ty := .byte) (by decide)
            have F137_value : Fld Z h137 b137 "java/lang/String" "value" "[B" .null := D137 (Or.inr (hw _ (List.mem_of_getElem? (i := 30) rfl))) (ty := (.array .byte)) (by decide)
            refine gs (mkF m 365 _ [(.ref b137), (.ref b137)]) (fun T A t k => XS.dup A B.x rfl (B.d at_364) rfl rfl k) ?_
            refine gs (mkF m 367 _ [(.ref b21), (.ref b137), (.ref b137)]) (fun T A t k => XS.aload A B.x rfl (B.d at_365) rfl rfl k) ?_
            refine g_pay (Q' := fun v h' L => v = none ∧ Fr n0 L ∧ Keep h137 h' [b137] ∧ ∃ t : Addr, @Eq Nat t h137.size ∧ Str Z h' b137 t (inv bs)) (k := 1) (n := 35) (c_init B rfl (hw _ (List.mem_of_getElem? (i := 5) rfl)) (hw _ (List.mem_of_getElem? (i := 6) rfl)) (hw _ (List.mem_of_getElem? (i := 7) rfl)) (by decide) rfl (lenOf pd_285bC29V rfl) rfl (Nat.le_of_eq rfl) at_367 rfl (argsL := [(.ref b21)]) (rest := [(.ref b137)]) (W := 1) (q := 370)) (fun hZ => own_new (inv bs) 35 hZ (fun d hd => hw d (own_wnew d hd)) (hw _ (List.mem_of_getElem? (i := 3) rfl)) (n0 := n0) (by omega) (by omega) A137 F137_value F137_coder (VL.ext E137) (SC.ext (((((((((((((((((((((((((((((((((((((PO.ext E21).wr W23 (by omega)).wr W25 (by omega)).wr W27 (by omega)).wr W29 (by omega)).wr W31 (by omega)).wr W33 (by omega)).wr W35 (by omega)).wr W37 (by omega)).wr W39 (by omega)).wr W41 (by omega)).wr W43 (by omega)).wr W45 (by omega)).wr W47 (by omega)).wr W49 (by omega)).wr W51 (by omega)).wr W53 (by omega)).wr W55 (by omega)).wr W57 (by omega)).wr W59 (by omega)).wr W61 (by omega)).wr W63 (by omega)).wr W65 (by omega)).wr W67 (by omega)).wr W69 (by omega)).wr W71 (by omega)).wr W73 (by omega)).wr W75 (by omega)).wr W77 (by omega)).wr W79 (by omega)).wr W81 (by omega)).wr W83 (by omega)).wr W85 (by omega)).wr W87 (by omega)).wr W89 (by omega)).wr W91 (by omega)).ext E137).2) hzc rfl rfl (by decide) (by decide) (inv_r8 hb8) (by decide) (by decide)) (by decide) (by decide) (fun v h' L q => ⟨q.2.1, [b137], q.2.2.1, fun z hz => by cases List.mem_singleton.mp hz; exact S137⟩) ?_
            rintro v139 h139 L139 ⟨rfl, -, K139, t139, e139, X139⟩
            refine g_wt (fun Wt140 => ?_)
            have z139 := K139.1; have y139 := X139.lt; have x139 := X139.lt'
            refine g_met hEL (c_static B (hw _ (List.mem_of_getElem? (i := 31) rfl)) (hw _ (List.mem_of_getElem? (i := 32) rfl)) (hw _ (List.mem_of_getElem? (i := 33) rfl)) (hw _ (List.mem_of_getElem? (i := 34) rfl)) (by decide) rfl (lenOf pd_28Ljava2flang2fString3b29Lcom2fexample2faffixity2faffixity2focfl2fOcflVersion3b rfl) rfl (Nat.le_of_eq rfl) at_370 rfl (argsL := [(.ref b137)]) (rest := []) (W := 0) (q := 373)) (w_of l Z a0 hw hEL b137 va kv e0 e1 s0 s1 t0 t1 zc rv t139 (inv bs) h139 n0 X139 PE (by omega) PX ((((((((((((((((((((((((((((((((((((((PO.ext E21).wr W23 (by omega)).wr W25 (by omega)).wr W27 (by omega)).wr W29 (by omega)).wr W31 (by omega)).wr W33 (by omega)).wr W35 (by omega)).wr W37 (by omega)).wr W39 (by omega)).wr W41 (by omega)).wr W43 (by omega)).wr W45 (by omega)).wr W47 (by omega)).wr W49 (by omega)).wr W51 (by omega)).wr W53 (by omega)).wr W55 (by omega)).wr W57 (by omega)).wr W59 (by omega)).wr W61 (by omega)).wr W63 (by omega)).wr W65 (by omega)).wr W67 (by omega)).wr W69 (by omega)).wr W71 (by omega)).wr W73 (by omega)).wr W75 (by omega)).wr W77 (by omega)).wr W79 (by omega)).wr W81 (by omega)).wr W83 (by omega)).wr W85 (by omega)).wr W87 (by omega)).wr W89 (by omega)).wr W91 (by omega)).ext E137).keep K139 (allS (by omega) all0))) (hw _ (List.mem_of_getElem? (i := 34) rfl)) (hw _ (List.mem_of_getElem? (i := 33) rfl)) (by decide) (by decide) (by decide) (by decide) (fun _ q => nomatch q) ?_
            intro v141 h141 vm141 hZ141 C141 hQ141
            obtain ⟨ev141, K141⟩ := hQ141
            rw [show ofV e0 e1 (inv bs) = (.ref e1) from (by rw [h49]; exact of_49 _ _)] at ev141; subst ev141
            refine g_wt (fun Wt142 => ?_)
            refine gs (mkF m 375 _ [(.ref e1), (.ref e1)]) (fun T A t k => XS.aload A B.x rfl (B.d at_373) rfl rfl k) ?_
            refine g_acmp B rfl rfl at_375 (same := true) (decide_eq_true rfl) (by decide) (q := 378) (by decide) ?_
            refine gs (mkF m 379 _ [(.int (1 : Int32))]) (fun T A t k => XS.iconst A B.x rfl (B.d at_378) k) ?_
            refine gs (mkF m 383 _ [(.int (1 : Int32))]) (fun T A t k => XS.goto A B.x rfl (pc0 := 379) (pc' := 383) rfl (B.d at_379) (by decide) (by decide) k) ?_
            exact g_retN (t := .boolean) B (by simp) at_383 (by decide) (by decide) rfl
      · refine gs (mkF m 43 _ [(.int (1 : Int32))]) (fun T A t k => XS.iload A B.x rfl (B.d at_41) rfl k) ?_
        refine gs (mkF m 384 _ []) (fun T A t k => XS.ifYes A B.x rfl (pc0 := 43) (pc' := 384) rfl (B.d at_43) rfl ((if0 _ _).trans (feq (by decide : ¬ ((1 : Int32) = (0 : Int32)))).2) (by decide) (by decide) k) ?_
        refine gs (mkF m 386 _ [(.int (1 : Int32))]) (fun T A t k => XS.iload A B.x rfl (B.d at_384) rfl k) ?_
        refine gs (mkF m 387 _ [(.int (1 : Int32)), (.int (1 : Int32))]) (fun T A t k => XS.iconst A B.x rfl (B.d at_386) k) ?_
        refine gs (mkF m 390 _ []) (fun T A t k => XS.icmpNo A B.x rfl (B.d at_387) rfl (teq (by decide : (1 : Int32) = (1 : Int32))).2 k) ?_
        refine gs (mkF m 392 _ [(.int (36 : Int32))]) (fun T A t k => XS.bipush A B.x rfl (B.d at_390) k) ?_
        refine g_newP B (hw _ (List.mem_of_getElem? (i := 0) rfl)) at_392 (by decide) (cap := 36) (by decide) (by decide) (by decide) (by decide) (q := 394) rfl ?_
        intro h143 b143 k143 g143 E143 S143 A143
        refine g_wt (fun Wt144 => ?_)
        have z143 := E143.1; have y143 : @LT.lt Nat _ b143 h143.size := A143.lt
        have V143 : Arv Z h143 b143 k143 .char (36 : Int32) [(.int (0 : Int32)), (.int (0 : Int32)), (.int (0 : Int32)), (.int (0 : Int32)), (.int (0 : Int32)), (.int (0 : Int32)), (.int (0 : Int32)), (.int (0 : Int32)), (.int (0 : Int32)), (.int (0 : Int32)), (.int (0 : Int32)), (.int (0 : Int32)), (.int (0 : Int32)), (.int (0 : Int32)), (.int (0 : Int32)), (.int (0 : Int32)), (.int (0 : Int32)), (.int (0 : Int32)), (.int (0 : Int32)), (.int (0 : Int32)), (.int (0 : Int32)), (.int (0 : Int32)), (.int (0 : Int32)), (.int (0 : Int32)), (.int (0 : Int32)), (.int (0 : Int32)), (.int (0 : Int32)), (.int (0 : Int32)), (.int (0 : Int32)), (.int (0 : Int32)), (.int (0 : Int32)), (.int (0 : Int32)), (.int (0 : Int32)), (.int (0 : Int32)), (.int (0 : Int32)), (.int (0 : Int32))] (.int (0 : Int32)) := A143
        refine gs (mkF m 395 _ [(.ref b143), (.ref b143)]) (fun T A t k => XS.dup A B.x rfl (B.d at_394) rfl rfl k) ?_
        refine gs (mkF m 396 _ [(.int (0 : Int32)), (.ref b143), (.ref b143)]) (fun T A t k => XS.iconst A B.x rfl (B.d at_395) k) ?_
        refine gs (mkF m 398 _ [(.int (104 : Int32)), (.int (0 : Int32)), (.ref b143), (.ref b143)]) (fun T A t k => XS.bipush A B.x rfl (B.d at_396) k) ?_
        refine g_stC B V143 (x' := (104 : Int32)) (by decide) ⟨by decide, by decide⟩ (i := 0) rfl (Nat.le_of_ble_eq_true rfl) at_398 (Safe.arv Wt144.1.alike V143 (by decide)) (by omega) (q := 399) rfl ?_
        intro h145 W145 A145
        refine g_wt (fun Wt146 => ?_)
        have z145 := W145.size
        have V145 : Arv Z h145 b143 k143 .char (36 : Int32) [(.int (104 : Int32)), (.int (0 : Int32)), (.int (0 : Int32)), (.int (0 : Int32)), (.int (0 : Int32)), (.int (0 : Int32)), (.int (0 : Int32)), (.int (0 : Int32)), (.int (0 : Int32)), (.int (0 : Int32)), (.int (0 : Int32)), (.int (0 : Int32)), (.int (0 : Int32)), (.int (0 : Int32)), (.int (0 : Int32)), (.int (0 : Int32)), (.int (0 : Int32)), (.int (0 : Int32)), (.int (0 : Int32)), (.int (0 : Int32)), (.int (0 : Int32)), (.int (0 : Int32)), (.int (0 : Int32)), (.int (0 : Int32)), (.int (0 : Int32)), (.int (0 : Int32)), (.int (0 : Int32)), (.int (0 : Int32)), (.int (0 : Int32)), (.int (0 : Int32)), (.int (0 : Int32)), (.int (0 : Int32)), (.int (0 : Int32)), (.int (0 : Int32)), (.int (0 : Int32)), (.int (0 : Int32))] (.int (0 : Int32)) := A145
        refine gs (mkF m 400 _ [(.ref b143), (.ref b143)]) (fun T A t k => XS.dup A B.x rfl (B.d at_399) rfl rfl k) ?_
        refine gs (mkF m 401 _ [(.int (1 : Int32)), (.ref b143), (.ref b143)]) (fun T A t k => XS.iconst A B.x rfl (B.d at_400) k) ?_
        refine gs (mkF m 403 _ [(.int (116 : Int32)), (.int (1 : Int32)), (.ref b143), (.ref b143)]) (fun T A t k => XS.bipush A B.x rfl (B.d at_401) k) ?_
        refine g_stC B V145 (x' := (116 : Int32)) (by decide) ⟨by decide, by decide⟩ (i := 1) rfl (Nat.le_of_ble_eq_true rfl) at_403 (Safe.arv Wt146.1.alike V145 (by decide)) (by omega) (q := 404) rfl ?_
        intro h147 W147 A147
        refine g_wt (fun Wt148 => ?_)
        have z147 := W147.size
        have V147 : Arv Z h147 b143 k143 .char (36 : Int32) [(.int (104 : Int32)), (.int (116 : Int32)), (.int (0 : Int32)), (.int (0 : Int32)), (.int (0 : Int32)), (.int (0 : Int32)), (.int (0 : Int32)), (.int (0 : Int32)), (.int (0 : Int32)), (.int (0 : Int32)), (.int (0 : Int32)), (.int (0 : Int32)), (.int (0 : Int32)), (.int (0 : Int32)), (.int (0 : Int32)), (.int (0 : Int32)), (.int (0 : Int32)), (.int (0 : Int32)), (.int (0 : Int32)), (.int (0 : Int32)), (.int (0 : Int32)), (.int (0 : Int32)), (.int (0 : Int32)), (.int (0 : Int32)), (.int (0 : Int32)), (.int (0 : Int32)), (.int (0 : Int32)), (.int (0 : Int32)), (.int (0 : Int32)), (.int (0 : Int32)), (.int (0 : Int32)), (.int (0 : Int32)), (.int (0 : Int32)), (.int (0 : Int32)), (.int (0 : Int32)), (.int (0 : Int32))] (.int (0 : Int32)) := A147
        refine gs (mkF m 405 _ [(.ref b143), (.ref b143)]) (fun T A t k => XS.dup A B.x rfl (B.d at_404) rfl rfl k) ?_
        refine gs (mkF m 406 _ [(.int (2 : Int32)), (.ref b143), (.ref b143)]) (fun T A t k => XS.iconst A B.x rfl (B.d at_405) k) ?_
        refine gs (mkF m 408 _ [(.int (116 : Int32)), (.int (2 : Int32)), (.ref b143), (.ref b143)]) (fun T A t k => XS.bipush A B.x rfl (B.d at_406) k) ?_
        refine g_stC B V147 (x' := (116 : Int32)) (by decide) ⟨by decide, by decide⟩ (i := 2) rfl (Nat.le_of_ble_eq_true rfl) at_408 (Safe.arv Wt148.1.alike V147 (by decide)) (by omega) (q := 409) rfl ?_
        intro h149 W149 A149
        refine g_wt (fun Wt150 => ?_)
        have z149 := W149.size
        have V149 : Arv Z h149 b143 k143 .char (36 : Int32) [(.int (104 : Int32)), (.int (116 : Int32)), (.int (116 : Int32)), (.int (0 : Int32)), (.int (0 : Int32)), (.int (0 : Int32)), (.int (0 : Int32)), (.int (0 : Int32)), (.int (0 : Int32)), (.int (0 : Int32)), (.int (0 : Int32)), (.int (0 : Int32)), (.int (0 : Int32)), (.int (0 : Int32)), (.int (0 : Int32)), (.int (0 : Int32)), (.int (0 : Int32)), (.int (0 : Int32)), (.int (0 : Int32)), (.int (0 : Int32)), (.int (0 : Int32)), (.int (0 : Int32)), (.int (0 : Int32)), (.int (0 : Int32)), (.int (0 : Int32)), (.int (0 : Int32)), (.int (0 : Int32)), (.int (0 : Int32)), (.int (0 : Int32)), (.int (0 : Int32)), (.int (0 : Int32)), (.int (0 : Int32)), (.int (0 : Int32)), (.int (0 : Int32)), (.int (0 : Int32)), (.int (0 : Int32))] (.int (0 : Int32)) := A149
        refine gs (mkF m 410 _ [(.ref b143), (.ref b143)]) (fun T A t k => XS.dup A B.x rfl (B.d at_409) rfl rfl k) ?_
        refine gs (mkF m 411 _ [(.int (3 : Int32)), (.ref b143), (.ref b143)]) (fun T A t k => XS.iconst A B.x rfl (B.d at_410) k) ?_
        refine gs (mkF m 413 _ [(.int (112 : Int32)), (.int (3 : Int32)), (.ref b143), (.ref b143)]) (fun T A t k => XS.bipush A B.x rfl (B.d at_411) k) ?_
        refine g_stC B V149 (x' := (112 : Int32)) (by decide) ⟨by decide, by decide⟩ (i := 3) rfl (Nat.le_of_ble_eq_true rfl) at_413 (Safe.arv Wt150.1.alike V149 (by decide)) (by omega) (q := 414) rfl ?_
        intro h151 W151 A151
        refine g_wt (fun Wt152 => ?_)
        have z151 := W151.size
        have V151 : Arv Z h151 b143 k143 .char (36 : Int32) [(.int (104 : Int32)), (.int (116 : Int32)), (.int (116 : Int32)), (.int (112 : Int32)), (.int (0 : Int32)), (.int (0 : Int32)), (.int (0 : Int32)), (.int (0 : Int32)), (.int (0 : Int32)), (.int (0 : Int32)), (.int (0 : Int32)), (.int (0 : Int32)), (.int (0 : Int32)), (.int (0 : Int32)), (.int (0 : Int32)), (.int (0 : Int32)), (.int (0 : Int32)), (.int (0 : Int32)), (.int (0 : Int32)), (.int (0 : Int32)), (.int (0 : Int32)), (.int (0 : Int32)), (.int (0 : Int32)), (.int (0 : Int32)), (.int (0 : Int32)), (.int (0 : Int32)), (.int (0 : Int32)), (.int (0 : Int32)), (.int (0 : Int32)), (.int (0 : Int32)), (.int (0 : Int32)), (.int (0 : Int32)), (.int (0 : Int32)), (.int (0 : Int32)), (.int (0 : Int32)), (.int (0 : Int32))] (.int (0 : Int32)) := A151
        refine gs (mkF m 415 _ [(.ref b143), (.ref b143)]) (fun T A t k => XS.dup A B.x rfl (B.d at_414) rfl rfl k) ?_
        refine gs (mkF m 416 _ [(.int (4 : Int32)), (.ref b143), (.ref b143)]) (fun T A t k => XS.iconst A B.x rfl (B.d at_415) k) ?_
        refine gs (mkF m 418 _ [(.int (115 : Int32)), (.int (4 : Int32)), (.ref b143), (.ref b143)]) (fun T A t k => XS.bipush A B.x rfl (B.d at_416) k) ?_
        refine g_stC B V151 (x' := (115 : Int32)) (by decide) ⟨by decide, by decide⟩ (i := 4) rfl (Nat.le_of_ble_eq_true rfl) at_418 (Safe.arv Wt152.1.alike V151 (by decide)) (by omega) (q := 419) rfl ?_
        intro h153 W153 A153
        refine g_wt (fun Wt154 => ?_)
        have z153 := W153.size
        have V153 : Arv Z h153 b143 k143 .char (36 : Int32) [(.int (104 : Int32)), (.int (116 : Int32)), (.int (116 : Int32)), (.int (112 : Int32)), (.int (115 : Int32)), (.int (0 : Int32)), (.int (0 : Int32)), (.int (0 : Int32)), (.int (0 : Int32)), (.int (0 : Int32)), (.int (0 : Int32)), (.int (0 : Int32)), (.int (0 : Int32)), (.int (0 : Int32)), (.int (0 : Int32)), (.int (0 : Int32)), (.int (0 : Int32)), (.int (0 : Int32)), (.int (0 : Int32)), (.int (0 : Int32)), (.int (0 : Int32)), (.int (0 : Int32)), (.int (0 : Int32)), (.int (0 : Int32)), (.int (0 : Int32)), (.int (0 : Int32)), (.int (0 : Int32)), (.int (0 : Int32)), (.int (0 : Int32)), (.int (0 : Int32)), (.int (0 : Int32)), (.int (0 : Int32)), (.int (0 : Int32)), (.int (0 : Int32)), (.int (0 : Int32)), (.int (0 : Int32))] (.int (0 : Int32)) := A153
        refine gs (mkF m 420 _ [(.ref b143), (.ref b143)]) (fun T A t k => XS.dup A B.x rfl (B.d at_419) rfl rfl k) ?_
        refine gs (mkF m 421 _ [(.int (5 : Int32)), (.ref b143), (.ref b143)]) (fun T A t k => XS.iconst A B.x rfl (B.d at_420) k) ?_
        refine gs (mkF m 423 _ [(.int (58 : Int32)), (.int (5 : Int32)), (.ref b143), (.ref b143)]) (fun T A t k => XS.bipush A B.x rfl (B.d at_421) k) ?_
        refine g_stC B V153 (x' := (58 : Int32)) (by decide) ⟨by decide, by decide⟩ (i := 5) rfl (Nat.le_of_ble_eq_true rfl) at_423 (Safe.arv Wt154.1.alike V153 (by decide)) (by omega) (q := 424) rfl ?_
        intro h155 W155 A155
        refine g_wt (fun Wt156 => ?_)
        have z155 := W155.size
        have V155 : Arv Z h155 b143 k143 .char (36 : Int32) [(.int (104 : Int32)), (.int (116 : Int32)), (.int (116 : Int32)), (.int (112 : Int32)), (.int (115 : Int32)), (.int (58 : Int32)), (.int (0 : Int32)), (.int (0 : Int32)), (.int (0 : Int32)), (.int (0 : Int32)), (.int (0 : Int32)), (.int (0 : Int32)), (.int (0 : Int32)), (.int (0 : Int32)), (.int (0 : Int32)), (.int (0 : Int32)), (.int (0 : Int32)), (.int (0 : Int32)), (.int (0 : Int32)), (.int (0 : Int32)), (.int (0 : Int32)), (.int (0 : Int32)), (.int (0 : Int32)), (.int (0 : Int32)), (.int (0 : Int32)), (.int (0 : Int32)), (.int (0 : Int32)), (.int (0 : Int32)), (.int (0 : Int32)), (.int (0 : Int32)), (.int (0 : Int32)), (.int (0 : Int32)), (.int (0 : Int32)), (.int (0 : Int32)), (.int (0 : Int32)), (.int (0 : Int32))] (.int (0 : Int32)) := A155
        refine gs (mkF m 425 _ [(.ref b143), (.ref b143)]) (fun T A t k => XS.dup A B.x rfl (B.d at_424) rfl rfl k) ?_
        refine gs (mkF m 427 _ [(.int (6 : Int32)), (.ref b143), (.ref b143)]) (fun T A t k => XS.bipush A B.x rfl (B.d at_425) k) ?_
        refine gs (mkF m 429 _ [(.int (47 : Int32)), (.int (6 : Int32)), (.ref b143), (.ref b143)]) (fun T A t k => XS.bipush A B.x rfl (B.d at_427) k) ?_
        refine g_stC B V155 (x' := (47 : Int32)) (by decide) ⟨by decide, by decide⟩ (i := 6) rfl (Nat.le_of_ble_eq_true rfl) at_429 (Safe.arv Wt156.1.alike V155 (by decide)) (by omega) (q := 430) rfl ?_
        intro h157 W157 A157
        refine g_wt (fun Wt158 => ?_)
        have z157 := W157.size
        have V157 : Arv Z h157 b143 k143 .char (36 : Int32) [(.int (104 : Int32)), (.int (116 : Int32)), (.int (116 : Int32)), (.int (112 : Int32)), (.int (115 : Int32)), (.int (58 : Int32)), (.int (47 : Int32)), (.int (0 : Int32)), (.int (0 : Int32)), (.int (0 : Int32)), (.int (0 : Int32)), (.int (0 : Int32)), (.int (0 : Int32)), (.int (0 : Int32)), (.int (0 : Int32)), (.int (0 : Int32)), (.int (0 : Int32)), (.int (0 : Int32)), (.int (0 : Int32)), (.int (0 : Int32)), (.int (0 : Int32)), (.int (0 : Int32)), (.int (0 : Int32)), (.int (0 : Int32)), (.int (0 : Int32)), (.int (0 : Int32)), (.int (0 : Int32)), (.int (0 : Int32)), (.int (0 : Int32)), (.int (0 : Int32)), (.int (0 : Int32)), (.int (0 : Int32)), (.int (0 : Int32)), (.int (0 : Int32)), (.int (0 : Int32)), (.int (0 : Int32))] (.int (0 : Int32)) := A157
        refine gs (mkF m 431 _ [(.ref b143), (.ref b143)]) (fun T A t k => XS.dup A B.x rfl (B.d at_430) rfl rfl k) ?_
        refine gs (mkF m 433 _ [(.int (7 : Int32)), (.ref b143), (.ref b143)]) (fun T A t k => XS.bipush A B.x rfl (B.d at_431) k) ?_
        refine gs (mkF m 435 _ [(.int (47 : Int32)), (.int (7 : Int32)), (.ref b143), (.ref b143)]) (fun T A t k => XS.bipush A B.x rfl (B.d at_433) k) ?_
        refine g_stC B V157 (x' := (47 : Int32)) (by decide) ⟨by decide, by decide⟩ (i := 7) rfl (Nat.le_of_ble_eq_true rfl) at_435 (Safe.arv Wt158.1.alike V157 (by decide)) (by omega) (q := 436) rfl ?_
        intro h159 W159 A159
        refine g_wt (fun Wt160 => ?_)
        have z159 := W159.size
        have V159 : Arv Z h159 b143 k143 .char (36 : Int32) [(.int (104 : Int32)), (.int (116 : Int32)), (.int (116 : Int32)), (.int (112 : Int32)), (.int (115 : Int32)), (.int (58 : Int32)), (.int (47 : Int32)), (.int (47 : Int32)), (.int (0 : Int32)), (.int (0 : Int32)), (.int (0 : Int32)), (.int (0 : Int32)), (.int (0 : Int32)), (.int (0 : Int32)), (.int (0 : Int32)), (.int (0 : Int32)), (.int (0 : Int32)), (.int (0 : Int32)), (.int (0 : Int32)), (.int (0 : Int32)), (.int (0 : Int32)), (.int (0 : Int32)), (.int (0 : Int32)), (.int (0 : Int32)), (.int (0 : Int32)), (.int (0 : Int32)), (.int (0 : Int32)), (.int (0 : Int32)), (.int (0 : Int32)), (.int (0 : Int32)), (.int (0 : Int32)), (.int (0 : Int32)), (.int (0 : Int32)), (.int (0 : Int32)), (.int (0 : Int32)), (.int (0 : Int32))] (.int (0 : Int32)) := A159
        refine gs (mkF m 437 _ [(.ref b143), (.ref b143)]) (fun T A t k => XS.dup A B.x rfl (B.d at_436) rfl rfl k) ?_
        refine gs (mkF m 439 _ [(.int (8 : Int32)), (.ref b143), (.ref b143)]) (fun T A t k => XS.bipush A B.x rfl (B.d at_437) k) ?_
        refine gs (mkF m 441 _ [(.int (111 : Int32)), (.int (8 : Int32)), (.ref b143), (.ref b143)]) (fun T A t k => XS.bipush A B.x rfl (B.d at_439) k) ?_
        refine g_stC B V159 (x' := (111 : Int32)) (by decide) ⟨by decide, by decide⟩ (i := 8) rfl (Nat.le_of_ble_eq_true rfl) at_441 (Safe.arv Wt160.1.alike V159 (by decide)) (by omega) (q := 442) rfl ?_
        intro h161 W161 A161
        refine g_wt (fun Wt162 => ?_)
        have z161 := W161.size
        have V161 : Arv Z h161 b143 k143 .char (36 : Int32) [(.int (104 : Int32)), (.int (116 : Int32)), (.int (116 : Int32)), (.int (112 : Int32)), (.int (115 : Int32)), (.int (58 : Int32)), (.int (47 : Int32)), (.int (47 : Int32)), (.int (111 : Int32)), (.int (0 : Int32)), (.int (0 : Int32)), (.int (0 : Int32)), (.int (0 : Int32)), (.int (0 : Int32)), (.int (0 : Int32)), (.int (0 : Int32)), (.int (0 : Int32)), (.int (0 : Int32)), (.int (0 : Int32)), (.int (0 : Int32)), (.int (0 : Int32)), (.int (0 : Int32)), (.int (0 : Int32)), (.int (0 : Int32)), (.int (0 : Int32)), (.int (0 : Int32)), (.int (0 : Int32)), (.int (0 : Int32)), (.int (0 : Int32)), (.int (0 : Int32)), (.int (0 : Int32)), (.int (0 : Int32)), (.int (0 : Int32)), (.int (0 : Int32)), (.int (0 : Int32)), (.int (0 : Int32))] (.int (0 : Int32)) := A161
        refine gs (mkF m 443 _ [(.ref b143), (.ref b143)]) (fun T A t k => XS.dup A B.x rfl (B.d at_442) rfl rfl k) ?_
        refine gs (mkF m 445 _ [(.int (9 : Int32)), (.ref b143), (.ref b143)]) (fun T A t k => XS.bipush A B.x rfl (B.d at_443) k) ?_
        refine gs (mkF m 447 _ [(.int (99 : Int32)), (.int (9 : Int32)), (.ref b143), (.ref b143)]) (fun T A t k => XS.bipush A B.x rfl (B.d at_445) k) ?_
        refine g_stC B V161 (x' := (99 : Int32)) (by decide) ⟨by decide, by decide⟩ (i := 9) rfl (Nat.le_of_ble_eq_true rfl) at_447 (Safe.arv Wt162.1.alike V161 (by decide)) (by omega) (q := 448) rfl ?_
        intro h163 W163 A163
        refine g_wt (fun Wt164 => ?_)
        have z163 := W163.size
        have V163 : Arv Z h163 b143 k143 .char (36 : Int32) [(.int (104 : Int32)), (.int (116 : Int32)), (.int (116 : Int32)), (.int (112 : Int32)), (.int (115 : Int32)), (.int (58 : Int32)), (.int (47 : Int32)), (.int (47 : Int32)), (.int (111 : Int32)), (.int (99 : Int32)), (.int (0 : Int32)), (.int (0 : Int32)), (.int (0 : Int32)), (.int (0 : Int32)), (.int (0 : Int32)), (.int (0 : Int32)), (.int (0 : Int32)), (.int (0 : Int32)), (.int (0 : Int32)), (.int (0 : Int32)), (.int (0 : Int32)), (.int (0 : Int32)), (.int (0 : Int32)), (.int (0 : Int32)), (.int (0 : Int32)), (.int (0 : Int32)), (.int (0 : Int32)), (.int (0 : Int32)), (.int (0 : Int32)), (.int (0 : Int32)), (.int (0 : Int32)), (.int (0 : Int32)), (.int (0 : Int32)), (.int (0 : Int32)), (.int (0 : Int32)), (.int (0 : Int32))] (.int (0 : Int32)) := A163
        refine gs (mkF m 449 _ [(.ref b143), (.ref b143)]) (fun T A t k => XS.dup A B.x rfl (B.d at_448) rfl rfl k) ?_
        refine gs (mkF m 451 _ [(.int (10 : Int32)), (.ref b143), (.ref b143)]) (fun T A t k => XS.bipush A B.x rfl (B.d at_449) k) ?_
        refine gs (mkF m 453 _ [(.int (102 : Int32)), (.int (10 : Int32)), (.ref b143), (.ref b143)]) (fun T A t k => XS.bipush A B.x rfl (B.d at_451) k) ?_
        refine g_stC B V163 (x' := (102 : Int32)) (by decide) ⟨by decide, by decide⟩ (i := 10) rfl (Nat.le_of_ble_eq_true rfl) at_453 (Safe.arv Wt164.1.alike V163 (by decide)) (by omega) (q := 454) rfl ?_
        intro h165 W165 A165
        refine g_wt (fun Wt166 => ?_)
        have z165 := W165.size
        have V165 : Arv Z h165 b143 k143 .char (36 : Int32) [(.int (104 : Int32)), (.int (116 : Int32)), (.int (116 : Int32)), (.int (112 : Int32)), (.int (115 : Int32)), (.int (58 : Int32)), (.int (47 : Int32)), (.int (47 : Int32)), (.int (111 : Int32)), (.int (99 : Int32)), (.int (102 : Int32)), (.int (0 : Int32)), (.int (0 : Int32)), (.int (0 : Int32)), (.int (0 : Int32)), (.int (0 : Int32)), (.int (0 : Int32)), (.int (0 : Int32)), (.int (0 : Int32)), (.int (0 : Int32)), (.int (0 : Int32)), (.int (0 : Int32)), (.int (0 : Int32)), (.int (0 : Int32)), (.int (0 : Int32)), (.int (0 : Int32)), (.int (0 : Int32)), (.int (0 : Int32)), (.int (0 : Int32)), (.int (0 : Int32)), (.int (0 : Int32)), (.int (0 : Int32)), (.int (0 : Int32)), (.int (0 : Int32)), (.int (0 : Int32)), (.int (0 : Int32))] (.int (0 : Int32)) := A165
        refine gs (mkF m 455 _ [(.ref b143), (.ref b143)]) (fun T A t k => XS.dup A B.x rfl (B.d at_454) rfl rfl k) ?_
        refine gs (mkF m 457 _ [(.int (11 : Int32)), (.ref b143), (.ref b143)]) (fun T A t k => XS.bipush A B.x rfl (B.d at_455) k) ?_
        refine gs (mkF m 459 _ [(.int (108 : Int32)), (.int (11 : Int32)), (.ref b143), (.ref b143)]) (fun T A t k => XS.bipush A B.x rfl (B.d at_457) k) ?_
        refine g_stC B V165 (x' := (108 : Int32)) (by decide) ⟨by decide, by decide⟩ (i := 11) rfl (Nat.le_of_ble_eq_true rfl) at_459 (Safe.arv Wt166.1.alike V165 (by decide)) (by omega) (q := 460) rfl ?_
        intro h167 W167 A167
        refine g_wt (fun Wt168 => ?_)
        have z167 := W167.size
        have V167 : Arv Z h167 b143 k143 .char (36 : Int32) [(.int (104 : Int32)), (.int (116 : Int32)), (.int (116 : Int32)), (.int (112 : Int32)), (.int (115 : Int32)), (.int (58 : Int32)), (.int (47 : Int32)), (.int (47 : Int32)), (.int (111 : Int32)), (.int (99 : Int32)), (.int (102 : Int32)), (.int (108 : Int32)), (.int (0 : Int32)), (.int (0 : Int32)), (.int (0 : Int32)), (.int (0 : Int32)), (.int (0 : Int32)), (.int (0 : Int32)), (.int (0 : Int32)), (.int (0 : Int32)), (.int (0 : Int32)), (.int (0 : Int32)), (.int (0 : Int32)), (.int (0 : Int32)), (.int (0 : Int32)), (.int (0 : Int32)), (.int (0 : Int32)), (.int (0 : Int32)), (.int (0 : Int32)), (.int (0 : Int32)), (.int (0 : Int32)), (.int (0 : Int32)), (.int (0 : Int32)), (.int (0 : Int32)), (.int (0 : Int32)), (.int (0 : Int32))] (.int (0 : Int32)) := A167
        refine gs (mkF m 461 _ [(.ref b143), (.ref b143)]) (fun T A t k => XS.dup A B.x rfl (B.d at_460) rfl rfl k) ?_
        refine gs (mkF m 463 _ [(.int (12 : Int32)), (.ref b143), (.ref b143)]) (fun T A t k => XS.bipush A B.x rfl (B.d at_461) k) ?_
        refine gs (mkF m 465 _ [(.int (46 : Int32)), (.int (12 : Int32)), (.ref b143), (.ref b143)]) (fun T A t k => XS.bipush A B.x rfl (B.d at_463) k) ?_
        refine g_stC B V167 (x' := (46 : Int32)) (by decide) ⟨by decide, by decide⟩ (i := 12) rfl (Nat.le_of_ble_eq_true rfl) at_465 (Safe.arv Wt168.1.alike V167 (by decide)) (by omega) (q := 466) rfl ?_
        intro h169 W169 A169
        refine g_wt (fun Wt170 => ?_)
        have z169 := W169.size
        have V169 : Arv Z h169 b143 k143 .char (36 : Int32) [(.int (104 : Int32)), (.int (116 : Int32)), (.int (116 : Int32)), (.int (112 : Int32)), (.int (115 : Int32)), (.int (58 : Int32)), (.int (47 : Int32)), (.int (47 : Int32)), (.int (111 : Int32)), (.int (99 : Int32)), (.int (102 : Int32)), (.int (108 : Int32)), (.int (46 : Int32)), (.int (0 : Int32)), (.int (0 : Int32)), (.int (0 : Int32)), (.int (0 : Int32)), (.int (0 : Int32)), (.int (0 : Int32)), (.int (0 : Int32)), (.int (0 : Int32)), (.int (0 : Int32)), (.int (0 : Int32)), (.int (0 : Int32)), (.int (0 : Int32)), (.int (0 : Int32)), (.int (0 : Int32)), (.int (0 : Int32)), (.int (0 : Int32)), (.int (0 : Int32)), (.int (0 : Int32)), (.int (0 : Int32)), (.int (0 : Int32)), (.int (0 : Int32)), (.int (0 : Int32)), (.int (0 : Int32))] (.int (0 : Int32)) := A169
        refine gs (mkF m 467 _ [(.ref b143), (.ref b143)]) (fun T A t k => XS.dup A B.x rfl (B.d at_466) rfl rfl k) ?_
        refine gs (mkF m 469 _ [(.int (13 : Int32)), (.ref b143), (.ref b143)]) (fun T A t k => XS.bipush A B.x rfl (B.d at_467) k) ?_
        refine gs (mkF m 471 _ [(.int (105 : Int32)), (.int (13 : Int32)), (.ref b143), (.ref b143)]) (fun T A t k => XS.bipush A B.x rfl (B.d at_469) k) ?_
        refine g_stC B V169 (x' := (105 : Int32)) (by decide) ⟨by decide, by decide⟩ (i := 13) rfl (Nat.le_of_ble_eq_true rfl) at_471 (Safe.arv Wt170.1.alike V169 (by decide)) (by omega) (q := 472) rfl ?_
        intro h171 W171 A171
        refine g_wt (fun Wt172 => ?_)
        have z171 := W171.size
        have V171 : Arv Z h171 b143 k143 .char (36 : Int32) [(.int (104 : Int32)), (.int (116 : Int32)), (.int (116 : Int32)), (.int (112 : Int32)), (.int (115 : Int32)), (.int (58 : Int32)), (.int (47 : Int32)), (.int (47 : Int32)), (.int (111 : Int32)), (.int (99 : Int32)), (.int (102 : Int32)), (.int (108 : Int32)), (.int (46 : Int32)), (.int (105 : Int32)), (.int (0 : Int32)), (.int (0 : Int32)), (.int (0 : Int32)), (.int (0 : Int32)), (.int (0 : Int32)), (.int (0 : Int32)), (.int (0 : Int32)), (.int (0 : Int32)), (.int (0 : Int32)), (.int (0 : Int32)), (.int (0 : Int32)), (.int (0 : Int32)), (.int (0 : Int32)), (.int (0 : Int32)), (.int (0 : Int32)), (.int (0 : Int32)), (.int (0 : Int32)), (.int (0 : Int32)), (.int (0 : Int32)), (.int (0 : Int32)), (.int (0 : Int32)), (.int (0 : Int32))] (.int (0 : Int32)) := A171
        refine gs (mkF m 473 _ [(.ref b143), (.ref b143)]) (fun T A t k => XS.dup A B.x rfl (B.d at_472) rfl rfl k) ?_
        refine gs (mkF m 475 _ [(.int (14 : Int32)), (.ref b143), (.ref b143)]) (fun T A t k => XS.bipush A B.x rfl (B.d at_473) k) ?_
        refine gs (mkF m 477 _ [(.int (111 : Int32)), (.int (14 : Int32)), (.ref b143), (.ref b143)]) (fun T A t k => XS.bipush A B.x rfl (B.d at_475) k) ?_
        refine g_stC B V171 (x' := (111 : Int32)) (by decide) ⟨by decide, by decide⟩ (i := 14) rfl (Nat.le_of_ble_eq_true rfl) at_477 (Safe.arv Wt172.1.alike V171 (by decide)) (by omega) (q := 478) rfl ?_
        intro h173 W173 A173
        refine g_wt (fun Wt174 => ?_)
        have z173 := W173.size
        have V173 : Arv Z h173 b143 k143 .char (36 : Int32) [(.int (104 : Int32)), (.int (116 : Int32)), (.int (116 : Int32)), (.int (112 : Int32)), (.int (115 : Int32)), (.int (58 : Int32)), (.int (47 : Int32)), (.int (47 : Int32)), (.int (111 : Int32)), (.int (99 : Int32)), (.int (102 : Int32)), (.int (108 : Int32)), (.int (46 : Int32)), (.int (105 : Int32)), (.int (111 : Int32)), (.int (0 : Int32)), (.int (0 : Int32)), (.int (0 : Int32)), (.int (0 : Int32)), (.int (0 : Int32)), (.int (0 : Int32)), (.int (0 : Int32)), (.int (0 : Int32)), (.int (0 : Int32)), (.int (0 : Int32)), (.int (0 : Int32)), (.int (0 : Int32)), (.int (0 : Int32)), (.int (0 : Int32)), (.int (0 : Int32)), (.int (0 : Int32)), (.int (0 : Int32)), (.int (0 : Int32)), (.int (0 : Int32)), (.int (0 : Int32)), (.int (0 : Int32))] (.int (0 : Int32)) := A173
        refine gs (mkF m 479 _ [(.ref b143), (.ref b143)]) (fun T A t k => XS.dup A B.x rfl (B.d at_478) rfl rfl k) ?_
        refine gs (mkF m 481 _ [(.int (15 : Int32)), (.ref b143), (.ref b143)]) (fun T A t k => XS.bipush A B.x rfl (B.d at_479) k) ?_
        refine gs (mkF m 483 _ [(.int (47 : Int32)), (.int (15 : Int32)), (.ref b143), (.ref b143)]) (fun T A t k => XS.bipush A B.x rfl (B.d at_481) k) ?_
        refine g_stC B V173 (x' := (47 : Int32)) (by decide) ⟨by decide, by decide⟩ (i := 15) rfl (Nat.le_of_ble_eq_true rfl) at_483 (Safe.arv Wt174.1.alike V173 (by decide)) (by omega) (q := 484) rfl ?_
        intro h175 W175 A175
        refine g_wt (fun Wt176 => ?_)
        have z175 := W175.size
        have V175 : Arv Z h175 b143 k143 .char (36 : Int32) [(.int (104 : Int32)), (.int (116 : Int32)), (.int (116 : Int32)), (.int (112 : Int32)), (.int (115 : Int32)), (.int (58 : Int32)), (.int (47 : Int32)), (.int (47 : Int32)), (.int (111 : Int32)), (.int (99 : Int32)), (.int (102 : Int32)), (.int (108 : Int32)), (.int (46 : Int32)), (.int (105 : Int32)), (.int (111 : Int32)), (.int (47 : Int32)), (.int (0 : Int32)), (.int (0 : Int32)), (.int (0 : Int32)), (.int (0 : Int32)), (.int (0 : Int32)), (.int (0 : Int32)), (.int (0 : Int32)), (.int (0 : Int32)), (.int (0 : Int32)), (.int (0 : Int32)), (.int (0 : Int32)), (.int (0 : Int32)), (.int (0 : Int32)), (.int (0 : Int32)), (.int (0 : Int32)), (.int (0 : Int32)), (.int (0 : Int32)), (.int (0 : Int32)), (.int (0 : Int32)), (.int (0 : Int32))] (.int (0 : Int32)) := A175
        refine gs (mkF m 485 _ [(.ref b143), (.ref b143)]) (fun T A t k => XS.dup A B.x rfl (B.d at_484) rfl rfl k) ?_
        refine gs (mkF m 487 _ [(.int (16 : Int32)), (.ref b143), (.ref b143)]) (fun T A t k => XS.bipush A B.x rfl (B.d at_485) k) ?_
        refine gs (mkF m 489 _ [(.int (49 : Int32)), (.int (16 : Int32)), (.ref b143), (.ref b143)]) (fun T A t k => XS.bipush A B.x rfl (B.d at_487) k) ?_
        refine g_stC B V175 (x' := (49 : Int32)) (by decide) ⟨by decide, by decide⟩ (i := 16) rfl (Nat.le_of_ble_eq_true rfl) at_489 (Safe.arv Wt176.1.alike V175 (by decide)) (by omega) (q := 490) rfl ?_
        intro h177 W177 A177
        refine g_wt (fun Wt178 => ?_)
        have z177 := W177.size
        have V177 : Arv Z h177 b143 k143 .char (36 : Int32) [(.int (104 : Int32)), (.int (116 : Int32)), (.int (116 : Int32)), (.int (112 : Int32)), (.int (115 : Int32)), (.int (58 : Int32)), (.int (47 : Int32)), (.int (47 : Int32)), (.int (111 : Int32)), (.int (99 : Int32)), (.int (102 : Int32)), (.int (108 : Int32)), (.int (46 : Int32)), (.int (105 : Int32)), (.int (111 : Int32)), (.int (47 : Int32)), (.int (49 : Int32)), (.int (0 : Int32)), (.int (0 : Int32)), (.int (0 : Int32)), (.int (0 : Int32)), (.int (0 : Int32)), (.int (0 : Int32)), (.int (0 : Int32)), (.int (0 : Int32)), (.int (0 : Int32)), (.int (0 : Int32)), (.int (0 : Int32)), (.int (0 : Int32)), (.int (0 : Int32)), (.int (0 : Int32)), (.int (0 : Int32)), (.int (0 : Int32)), (.int (0 : Int32)), (.int (0 : Int32)), (.int (0 : Int32))] (.int (0 : Int32)) := A177
        refine gs (mkF m 491 _ [(.ref b143), (.ref b143)]) (fun T A t k => XS.dup A B.x rfl (B.d at_490) rfl rfl k) ?_
        refine gs (mkF m 493 _ [(.int (17 : Int32)), (.ref b143), (.ref b143)]) (fun T A t k => XS.bipush A B.x rfl (B.d at_491) k) ?_
        refine gs (mkF m 495 _ [(.int (46 : Int32)), (.int (17 : Int32)), (.ref b143), (.ref b143)]) (fun T A t k => XS.bipush A B.x rfl (B.d at_493) k) ?_
        refine g_stC B V177 (x' := (46 : Int32)) (by decide) ⟨by decide, by decide⟩ (i := 17) rfl (Nat.le_of_ble_eq_true rfl) at_495 (Safe.arv Wt178.1.alike V177 (by decide)) (by omega) (q := 496) rfl ?_
        intro h179 W179 A179
        refine g_wt (fun Wt180 => ?_)
        have z179 := W179.size
        have V179 : Arv Z h179 b143 k143 .char (36 : Int32) [(.int (104 : Int32)), (.int (116 : Int32)), (.int (116 : Int32)), (.int (112 : Int32)), (.int (115 : Int32)), (.int (58 : Int32)), (.int (47 : Int32)), (.int (47 : Int32)), (.int (111 : Int32)), (.int (99 : Int32)), (.int (102 : Int32)), (.int (108 : Int32)), (.int (46 : Int32)), (.int (105 : Int32)), (.int (111 : Int32)), (.int (47 : Int32)), (.int (49 : Int32)), (.int (46 : Int32)), (.int (0 : Int32)), (.int (0 : Int32)), (.int (0 : Int32)), (.int (0 : Int32)), (.int (0 : Int32)), (.int (0 : Int32)), (.int (0 : Int32)), (.int (0 : Int32)), (.int (0 : Int32)), (.int (0 : Int32)), (.int (0 : Int32)), (.int (0 : Int32)), (.int (0 : Int32)), (.int (0 : Int32)), (.int (0 : Int32)), (.int (0 : Int32)), (.int (0 : Int32)), (.int (0 : Int32))] (.int (0 : Int32)) := A179
        refine gs (mkF m 497 _ [(.ref b143), (.ref b143)]) (fun T A t k => XS.dup A B.x rfl (B.d at_496) rfl rfl k) ?_
        refine gs (mkF m 499 _ [(.int (18 : Int32)), (.ref b143), (.ref b143)]) (fun T A t k => XS.bipush A B.x rfl (B.d at_497) k) ?_
        refine gs (mkF m 501 _ [(.int bs), (.int (18 : Int32)), (.ref b143), (.ref b143)]) (fun T A t k => XS.iload A B.x rfl (B.d at_499) rfl k) ?_
        refine g_stC B V179 (x' := bs) (nar8 hb8) ⟨by decide, by decide⟩ (i := 18) rfl (Nat.le_of_ble_eq_true rfl) at_501 (Safe.arv Wt180.1.alike V179 (by decide)) (by omega) (q := 502) rfl ?_
        intro h181 W181 A181
        refine g_wt (fun Wt182 => ?_)
        have z181 := W181.size
        have V181 : Arv Z h181 b143 k143 .char (36 : Int32) [(.int (104 : Int32)), (.int (116 : Int32)), (.int (116 : Int32)), (.int (112 : Int32)), (.int (115 : Int32)), (.int (58 : Int32)), (.int (47 : Int32)), (.int (47 : Int32)), (.int (111 : Int32)), (.int (99 : Int32)), (.int (102 : Int32)), (.int (108 : Int32)), (.int (46 : Int32)), (.int (105 : Int32)), (.int (111 : Int32)), (.int (47 : Int32)), (.int (49 : Int32)), (.int (46 : Int32)), (.int bs), (.int (0 : Int32)), (.int (0 : Int32)), (.int (0 : Int32)), (.int (0 : Int32)), (.int (0 : Int32)), (.int (0 : Int32)), (.int (0 : Int32)), (.int (0 : Int32)), (.int (0 : Int32)), (.int (0 : Int32)), (.int (0 : Int32)), (.int (0 : Int32)), (.int (0 : Int32)), (.int (0 : Int32)), (.int (0 : Int32)), (.int (0 : Int32)), (.int (0 : Int32))] (.int (0 : Int32)) := A181
        refine gs (mkF m 503 _ [(.ref b143), (.ref b143)]) (fun T A t k => XS.dup A B.x rfl (B.d at_502) rfl rfl k) ?_
        refine gs (mkF m 505 _ [(.int (19 : Int32)), (.ref b143), (.ref b143)]) (fun T A t k => XS.bipush A B.x rfl (B.d at_503) k) ?_
        refine gs (mkF m 507 _ [(.int (47 : Int32)), (.int (19 : Int32)), (.ref b143), (.ref b143)]) (fun T A t k => XS.bipush A B.x rfl (B.d at_505) k) ?_
        refine g_stC B V181 (x' := (47 : Int32)) (by decide) ⟨by decide, by decide⟩ (i := 19) rfl (Nat.le_of_ble_eq_true rfl) at_507 (Safe.arv Wt182.1.alike V181 (by decide)) (by omega) (q := 508) rfl ?_
        intro h183 W183 A183
        refine g_wt (fun Wt184 => ?_)
        have z183 := W183.size
        have V183 : Arv Z h183 b143 k143 .char (36 : Int32) [(.int (104 : Int32)), (.int (116 : Int32)), (.int (116 : Int32)), (.int (112 : Int32)), (.int (115 : Int32)), (.int (58 : Int32)), (.int (47 : Int32)), (.int (47 : Int32)), (.int (111 : Int32)), (.int (99 : Int32)), (.int (102 : Int32)), (.int (108 : Int32)), (.int (46 : Int32)), (.int (105 : Int32)), (.int (111 : Int32)), (.int (47 : Int32)), (.int (49 : Int32)), (.int (46 : Int32)), (.int bs), (.int (47 : Int32)), (.int (0 : Int32)), (.int (0 : Int32)), (.int (0 : Int32)), (.int (0 : Int32)), (.int (0 : Int32)), (.int (0 : Int32)), (.int (0 : Int32)), (.int (0 : Int32)), (.int (0 : Int32)), (.int (0 : Int32)), (.int (0 : Int32)), (.int (0 : Int32)), (.int (0 : Int32)), (.int (0 : Int32)), (.int (0 : Int32)), (.int (0 : Int32))] (.int (0 : Int32)) := A183
        refine gs (mkF m 509 _ [(.ref b143), (.ref b143)]) (fun T A t k => XS.dup A B.x rfl (B.d at_508) rfl rfl k) ?_
        refine gs (mkF m 511 _ [(.int (20 : Int32)), (.ref b143), (.ref b143)]) (fun T A t k => XS.bipush A B.x rfl (B.d at_509) k) ?_
        refine gs (mkF m 513 _ [(.int (115 : Int32)), (.int (20 : Int32)), (.ref b143), (.ref b143)]) (fun T A t k => XS.bipush A B.x rfl (B.d at_511) k) ?_
        refine g_stC B V183 (x' := (115 : Int32)) (by decide) ⟨by decide, by decide⟩ (i := 20) rfl (Nat.le_of_ble_eq_true rfl) at_513 (Safe.arv Wt184.1.alike V183 (by decide)) (by omega) (q := 514) rfl ?_
        intro h185 W185 A185
        refine g_wt (fun Wt186 => ?_)
        have z185 := W185.size
        have V185 : Arv Z h185 b143 k143 .char (36 : Int32) [(.int (104 : Int32)), (.int (116 : Int32)), (.int (116 : Int32)), (.int (112 : Int32)), (.int (115 : Int32)), (.int (58 : Int32)), (.int (47 : Int32)), (.int (47 : Int32)), (.int (111 : Int32)), (.int (99 : Int32)), (.int (102 : Int32)), (.int (108 : Int32)), (.int (46 : Int32)), (.int (105 : Int32)), (.int (111 : Int32)), (.int (47 : Int32)), (.int (49 : Int32)), (.int (46 : Int32)), (.int bs), (.int (47 : Int32)), (.int (115 : Int32)), (.int (0 : Int32)), (.int (0 : Int32)), (.int (0 : Int32)), (.int (0 : Int32)), (.int (0 : Int32)), (.int (0 : Int32)), (.int (0 : Int32)), (.int (0 : Int32)), (.int (0 : Int32)), (.int (0 : Int32)), (.int (0 : Int32)), (.int (0 : Int32)), (.int (0 : Int32)), (.int (0 : Int32)), (.int (0 : Int32))] (.int (0 : Int32)) := A185
        refine gs (mkF m 515 _ [(.ref b143), (.ref b143)]) (fun T A t k => XS.dup A B.x rfl (B.d at_514) rfl rfl k) ?_
        refine gs (mkF m 517 _ [(.int (21 : Int32)), (.ref b143), (.ref b143)]) (fun T A t k => XS.bipush A B.x rfl (B.d at_515) k) ?_
        refine gs (mkF m 519 _ [(.int (112 : Int32)), (.int (21 : Int32)), (.ref b143), (.ref b143)]) (fun T A t k => XS.bipush A B.x rfl (B.d at_517) k) ?_
        refine g_stC B V185 (x' := (112 : Int32)) (by decide) ⟨by decide, by decide⟩ (i := 21) rfl (Nat.le_of_ble_eq_true rfl) at_519 (Safe.arv Wt186.1.alike V185 (by decide)) (by omega) (q := 520) rfl ?_
        intro h187 W187 A187
        refine g_wt (fun Wt188 => ?_)
        have z187 := W187.size
        have V187 : Arv Z h187 b143 k143 .char (36 : Int32) [(.int (104 : Int32)), (.int (116 : Int32)), (.int (116 : Int32)), (.int (112 : Int32)), (.int (115 : Int32)), (.int (58 : Int32)), (.int (47 : Int32)), (.int (47 : Int32)), (.int (111 : Int32)), (.int (99 : Int32)), (.int (102 : Int32)), (.int (108 : Int32)), (.int (46 : Int32)), (.int (105 : Int32)), (.int (111 : Int32)), (.int (47 : Int32)), (.int (49 : Int32)), (.int (46 : Int32)), (.int bs), (.int (47 : Int32)), (.int (115 : Int32)), (.int (112 : Int32)), (.int (0 : Int32)), (.int (0 : Int32)), (.int (0 : Int32)), (.int (0 : Int32)), (.int (0 : Int32)), (.int (0 : Int32)), (.int (0 : Int32)), (.int (0 : Int32)), (.int (0 : Int32)), (.int (0 : Int32)), (.int (0 : Int32)), (.int (0 : Int32)), (.int (0 : Int32)), (.int (0 : Int32))] (.int (0 : Int32)) := A187
        refine gs (mkF m 521 _ [(.ref b143), (.ref b143)]) (fun T A t k => XS.dup A B.x rfl (B.d at_520) rfl rfl k) ?_
        refine gs (mkF m 523 _ [(.int (22 : Int32)), (.ref b143), (.ref b143)]) (fun T A t k => XS.bipush A B.x rfl (B.d at_521) k) ?_
        refine gs (mkF m 525 _ [(.int (101 : Int32)), (.int (22 : Int32)), (.ref b143), (.ref b143)]) (fun T A t k => XS.bipush A B.x rfl (B.d at_523) k) ?_
        refine g_stC B V187 (x' := (101 : Int32)) (by decide) ⟨by decide, by decide⟩ (i := 22) rfl (Nat.le_of_ble_eq_true rfl) at_525 (Safe.arv Wt188.1.alike V187 (by decide)) (by omega) (q := 526) rfl ?_
        intro h189 W189 A189
        refine g_wt (fun Wt190 => ?_)
        have z189 := W189.size
        have V189 : Arv Z h189 b143 k143 .char (36 : Int32) [(.int (104 : Int32)), (.int (116 : Int32)), (.int (116 : Int32)), (.int (112 : Int32)), (.int (115 : Int32)), (.int (58 : Int32)), (.int (47 : Int32)), (.int (47 : Int32)), (.int (111 : Int32)), (.int (99 : Int32)), (.int (102 : Int32)), (.int (108 : Int32)), (.int (46 : Int32)), (.int (105 : Int32)), (.int (111 : Int32)), (.int (47 : Int32)), (.int (49 : Int32)), (.int (46 : Int32)), (.int bs), (.int (47 : Int32)), (.int (115 : Int32)), (.int (112 : Int32)), (.int (101 : Int32)), (.int (0 : Int32)), (.int (0 : Int32)), (.int (0 : Int32)), (.int (0 : Int32)), (.int (0 : Int32)), (.int (0 : Int32)), (.int (0 : Int32)), (.int (0 : Int32)), (.int (0 : Int32)), (.int (0 : Int32)), (.int (0 : Int32)), (.int (0 : Int32)), (.int (0 : Int32))] (.int (0 : Int32)) := A189
        refine gs (mkF m 527 _ [(.ref b143), (.ref b143)]) (fun T A t k => XS.dup A B.x rfl (B.d at_526) rfl rfl k) ?_
        refine gs (mkF m 529 _ [(.int (23 : Int32)), (.ref b143), (.ref b143)]) (fun T A t k => XS.bipush A B.x rfl (B.d at_527) k) ?_
        refine gs (mkF m 531 _ [(.int (99 : Int32)), (.int (23 : Int32)), (.ref b143), (.ref b143)]) (fun T A t k => XS.bipush A B.x rfl (B.d at_529) k) ?_
        refine g_stC B V189 (x' := (99 : Int32)) (by decide) ⟨by decide, by decide⟩ (i := 23) rfl (Nat.le_of_ble_eq_true rfl) at_531 (Safe.arv Wt190.1.alike V189 (by decide)) (by omega) (q := 532) rfl ?_
        intro h191 W191 A191
        refine g_wt (fun Wt192 => ?_)
        have z191 := W191.size
        have V191 : Arv Z h191 b143 k143 .char (36 : Int32) [(.int (104 : Int32)), (.int (116 : Int32)), (.int (116 : Int32)), (.int (112 : Int32)), (.int (115 : Int32)), (.int (58 : Int32)), (.int (47 : Int32)), (.int (47 : Int32)), (.int (111 : Int32)), (.int (99 : Int32)), (.int (102 : Int32)), (.int (108 : Int32)), (.int (46 : Int32)), (.int (105 : Int32)), (.int (111 : Int32)), (.int (47 : Int32)), (.int (49 : Int32)), (.int (46 : Int32)), (.int bs), (.int (47 : Int32)), (.int (115 : Int32)), (.int (112 : Int32)), (.int (101 : Int32)), (.int (99 : Int32)), (.int (0 : Int32)), (.int (0 : Int32)), (.int (0 : Int32)), (.int (0 : Int32)), (.int (0 : Int32)), (.int (0 : Int32)), (.int (0 : Int32)), (.int (0 : Int32)), (.int (0 : Int32)), (.int (0 : Int32)), (.int (0 : Int32)), (.int (0 : Int32))] (.int (0 : Int32)) := A191
        refine gs (mkF m 533 _ [(.ref b143), (.ref b143)]) (fun T A t k => XS.dup A B.x rfl (B.d at_532) rfl rfl k) ?_
        refine gs (mkF m 535 _ [(.int (24 : Int32)), (.ref b143), (.ref b143)]) (fun T A t k => XS.bipush A B.x rfl (B.d at_533) k) ?_
        refine gs (mkF m 537 _ [(.int (47 : Int32)), (.int (24 : Int32)), (.ref b143), (.ref b143)]) (fun T A t k => XS.bipush A B.x rfl (B.d at_535) k) ?_
        refine g_stC B V191 (x' := (47 : Int32)) (by decide) ⟨by decide, by decide⟩ (i := 24) rfl (Nat.le_of_ble_eq_true rfl) at_537 (Safe.arv Wt192.1.alike V191 (by decide)) (by omega) (q := 538) rfl ?_
        intro h193 W193 A193
        refine g_wt (fun Wt194 => ?_)
        have z193 := W193.size
        have V193 : Arv Z h193 b143 k143 .char (36 : Int32) [(.int (104 : Int32)), (.int (116 : Int32)), (.int (116 : Int32)), (.int (112 : Int32)), (.int (115 : Int32)), (.int (58 : Int32)), (.int (47 : Int32)), (.int (47 : Int32)), (.int (111 : Int32)), (.int (99 : Int32)), (.int (102 : Int32)), (.int (108 : Int32)), (.int (46 : Int32)), (.int (105 : Int32)), (.int (111 : Int32)), (.int (47 : Int32)), (.int (49 : Int32)), (.int (46 : Int32)), (.int bs), (.int (47 : Int32)), (.int (115 : Int32)), (.int (112 : Int32)), (.int (101 : Int32)), (.int (99 : Int32)), (.int (47 : Int32)), (.int (0 : Int32)), (.int (0 : Int32)), (.int (0 : Int32)), (.int (0 : Int32)), (.int (0 : Int32)), (.int (0 : Int32)), (.int (0 : Int32)), (.int (0 : Int32)), (.int (0 : Int32)), (.int (0 : Int32)), (.int (0 : Int32))] (.int (0 : Int32)) := A193
        refine gs (mkF m 539 _ [(.ref b143), (.ref b143)]) (fun T A t k => XS.dup A B.x rfl (B.d at_538) rfl rfl k) ?_
        refine gs (mkF m 541 _ [(.int (25 : Int32)), (.ref b143), (.ref b143)]) (fun T A t k => XS.bipush A B.x rfl (B.d at_539) k) ?_
        refine gs (mkF m 543 _ [(.int (35 : Int32)), (.int (25 : Int32)), (.ref b143), (.ref b143)]) (fun T A t k => XS.bipush A B.x rfl (B.d at_541) k) ?_
        refine g_stC B V193 (x' := (35 : Int32)) (by decide) ⟨by decide, by decide⟩ (i := 25) rfl (Nat.le_of_ble_eq_true rfl) at_543 (Safe.arv Wt194.1.alike V193 (by decide)) (by omega) (q := 544) rfl ?_
        intro h195 W195 A195
        refine g_wt (fun Wt196 => ?_)
        have z195 := W195.size
        have V195 : Arv Z h195 b143 k143 .char (36 : Int32) [(.int (104 : Int32)), (.int (116 : Int32)), (.int (116 : Int32)), (.int (112 : Int32)), (.int (115 : Int32)), (.int (58 : Int32)), (.int (47 : Int32)), (.int (47 : Int32)), (.int (111 : Int32)), (.int (99 : Int32)), (.int (102 : Int32)), (.int (108 : Int32)), (.int (46 : Int32)), (.int (105 : Int32)), (.int (111 : Int32)), (.int (47 : Int32)), (.int (49 : Int32)), (.int (46 : Int32)), (.int bs), (.int (47 : Int32)), (.int (115 : Int32)), (.int (112 : Int32)), (.int (101 : Int32)), (.int (99 : Int32)), (.int (47 : Int32)), (.int (35 : Int32)), (.int (0 : Int32)), (.int (0 : Int32)), (.int (0 : Int32)), (.int (0 : Int32)), (.int (0 : Int32)), (.int (0 : Int32)), (.int (0 : Int32)), (.int (0 : Int32)), (.int (0 : Int32)), (.int (0 : Int32))] (.int (0 : Int32)) := A195
        refine gs (mkF m 545 _ [(.ref b143), (.ref b143)]) (fun T A t k => XS.dup A B.x rfl (B.d at_544) rfl rfl k) ?_
        refine gs (mkF m 547 _ [(.int (26 : Int32)), (.ref b143), (.ref b143)]) (fun T A t k => XS.bipush A B.x rfl (B.d at_545) k) ?_
        refine gs (mkF m 549 _ [(.int (105 : Int32)), (.int (26 : Int32)), (.ref b143), (.ref b143)]) (fun T A t k => XS.bipush A B.x rfl (B.d at_547) k) ?_
        refine g_stC B V195 (x' := (105 : Int32)) (by decide) ⟨by decide, by decide⟩ (i := 26) rfl (Nat.le_of_ble_eq_true rfl) at_549 (Safe.arv Wt196.1.alike V195 (by decide)) (by omega) (q := 550) rfl ?_
        intro h197 W197 A197
        refine g_wt (fun Wt198 => ?_)
        have z197 := W197.size
        have V197 : Arv Z h197 b143 k143 .char (36 : Int32) [(.int (104 : Int32)), (.int (116 : Int32)), (.int (116 : Int32)), (.int (112 : Int32)), (.int (115 : Int32)), (.int (58 : Int32)), (.int (47 : Int32)), (.int (47 : Int32)), (.int (111 : Int32)), (.int (99 : Int32)), (.int (102 : Int32)), (.int (108 : Int32)), (.int (46 : Int32)), (.int (105 : Int32)), (.int (111 : Int32)), (.int (47 : Int32)), (.int (49 : Int32)), (.int (46 : Int32)), (.int bs), (.int (47 : Int32)), (.int (115 : Int32)), (.int (112 : Int32)), (.int (101 : Int32)), (.int (99 : Int32)), (.int (47 : Int32)), (.int (35 : Int32)), (.int (105 : Int32)), (.int (0 : Int32)), (.int (0 : Int32)), (.int (0 : Int32)), (.int (0 : Int32)), (.int (0 : Int32)), (.int (0 : Int32)), (.int (0 : Int32)), (.int (0 : Int32)), (.int (0 : Int32))] (.int (0 : Int32)) := A197
        refine gs (mkF m 551 _ [(.ref b143), (.ref b143)]) (fun T A t k => XS.dup A B.x rfl (B.d at_550) rfl rfl k) ?_
        refine gs (mkF m 553 _ [(.int (27 : Int32)), (.ref b143), (.ref b143)]) (fun T A t k => XS.bipush A B.x rfl (B.d at_551) k) ?_
        refine gs (mkF m 555 _ [(.int (110 : Int32)), (.int (27 : Int32)), (.ref b143), (.ref b143)]) (fun T A t k => XS.bipush A B.x rfl (B.d at_553) k) ?_
        refine g_stC B V197 (x' := (110 : Int32)) (by decide) ⟨by decide, by decide⟩ (i := 27) rfl (Nat.le_of_ble_eq_true rfl) at_555 (Safe.arv Wt198.1.alike V197 (by decide)) (by omega) (q := 556) rfl ?_
        intro h199 W199 A199
        refine g_wt (fun Wt200 => ?_)
        have z199 := W199.size
        have V199 : Arv Z h199 b143 k143 .char (36 : Int32) [(.int (104 : Int32)), (.int (116 : Int32)), (.int (116 : Int32)), (.int (112 : Int32)), (.int (115 : Int32)), (.int (58 : Int32)), (.int (47 : Int32)), (.int (47 : Int32)), (.int (111 : Int32)), (.int (99 : Int32)), (.int (102 : Int32)), (.int (108 : Int32)), (.int (46 : Int32)), (.int (105 : Int32)), (.int (111 : Int32)), (.int (47 : Int32)), (.int (49 : Int32)), (.int (46 : Int32)), (.int bs), (.int (47 : Int32)), (.int (115 : Int32)), (.int (112 : Int32)), (.int (101 : Int32)), (.int (99 : Int32)), (.int (47 : Int32)), (.int (35 : Int32)), (.int (105 : Int32)), (.int (110 : Int32)), (.int (0 : Int32)), (.int (0 : Int32)), (.int (0 : Int32)), (.int (0 : Int32)), (.int (0 : Int32)), (.int (0 : Int32)), (.int (0 : Int32)), (.int (0 : Int32))] (.int (0 : Int32)) := A199
        refine gs (mkF m 557 _ [(.ref b143), (.ref b143)]) (fun T A t k => XS.dup A B.x rfl (B.d at_556) rfl rfl k) ?_
        refine gs (mkF m 559 _ [(.int (28 : Int32)), (.ref b143), (.ref b143)]) (fun T A t k => XS.bipush A B.x rfl (B.d at_557) k) ?_
        refine gs (mkF m 561 _ [(.int (118 : Int32)), (.int (28 : Int32)), (.ref b143), (.ref b143)]) (fun T A t k => XS.bipush A B.x rfl (B.d at_559) k) ?_
        refine g_stC B V199 (x' := (118 : Int32)) (by decide) ⟨by decide, by decide⟩ (i := 28) rfl (Nat.le_of_ble_eq_true rfl) at_561 (Safe.arv Wt200.1.alike V199 (by decide)) (by omega) (q := 562) rfl ?_
        intro h201 W201 A201
        refine g_wt (fun Wt202 => ?_)
        have z201 := W201.size
        have V201 : Arv Z h201 b143 k143 .char (36 : Int32) [(.int (104 : Int32)), (.int (116 : Int32)), (.int (116 : Int32)), (.int (112 : Int32)), (.int (115 : Int32)), (.int (58 : Int32)), (.int (47 : Int32)), (.int (47 : Int32)), (.int (111 : Int32)), (.int (99 : Int32)), (.int (102 : Int32)), (.int (108 : Int32)), (.int (46 : Int32)), (.int (105 : Int32)), (.int (111 : Int32)), (.int (47 : Int32)), (.int (49 : Int32)), (.int (46 : Int32)), (.int bs), (.int (47 : Int32)), (.int (115 : Int32)), (.int (112 : Int32)), (.int (101 : Int32)), (.int (99 : Int32)), (.int (47 : Int32)), (.int (35 : Int32)), (.int (105 : Int32)), (.int (110 : Int32)), (.int (118 : Int32)), (.int (0 : Int32)), (.int (0 : Int32)), (.int (0 : Int32)), (.int (0 : Int32)), (.int (0 : Int32)), (.int (0 : Int32)), (.int (0 : Int32))] (.int (0 : Int32)) := A201
        refine gs (mkF m 563 _ [(.ref b143), (.ref b143)]) (fun T A t k => XS.dup A B.x rfl (B.d at_562) rfl rfl k) ?_
        refine gs (mkF m 565 _ [(.int (29 : Int32)), (.ref b143), (.ref b143)]) (fun T A t k => XS.bipush A B.x rfl (B.d at_563) k) ?_
        refine gs (mkF m 567 _ [(.int (101 : Int32)), (.int (29 : Int32)), (.ref b143), (.ref b143)]) (fun T A t k => XS.bipush A B.x rfl (B.d at_565) k) ?_
        refine g_stC B V201 (x' := (101 : Int32)) (by decide) ⟨by decide, by decide⟩ (i := 29) rfl (Nat.le_of_ble_eq_true rfl) at_567 (Safe.arv Wt202.1.alike V201 (by decide)) (by omega) (q := 568) rfl ?_
        intro h203 W203 A203
        refine g_wt (fun Wt204 => ?_)
        have z203 := W203.size
        have V203 : Arv Z h203 b143 k143 .char (36 : Int32) [(.int (104 : Int32)), (.int (116 : Int32)), (.int (116 : Int32)), (.int (112 : Int32)), (.int (115 : Int32)), (.int (58 : Int32)), (.int (47 : Int32)), (.int (47 : Int32)), (.int (111 : Int32)), (.int (99 : Int32)), (.int (102 : Int32)), (.int (108 : Int32)), (.int (46 : Int32)), (.int (105 : Int32)), (.int (111 : Int32)), (.int (47 : Int32)), (.int (49 : Int32)), (.int (46 : Int32)), (.int bs), (.int (47 : Int32)), (.int (115 : Int32)), (.int (112 : Int32)), (.int (101 : Int32)), (.int (99 : Int32)), (.int (47 : Int32)), (.int (35 : Int32)), (.int (105 : Int32)), (.int (110 : Int32)), (.int (118 : Int32)), (.int (101 : Int32)), (.int (0 : Int32)), (.int (0 : Int32)), (.int (0 : Int32)), (.int (0 : Int32)), (.int (0 : Int32)), (.int (0 : Int32))] (.int (0 : Int32)) := A203
        refine gs (mkF m 569 _ [(.ref b143), (.ref b143)]) (fun T A t k => XS.dup A B.x rfl (B.d at_568) rfl rfl k) ?_
        refine gs (mkF m 571 _ [(.int (30 : Int32)), (.ref b143), (.ref b143)]) (fun T A t k => XS.bipush A B.x rfl (B.d at_569) k) ?_
        refine gs (mkF m 573 _ [(.int (110 : Int32)), (.int (30 : Int32)), (.ref b143), (.ref b143)]) (fun T A t k => XS.bipush A B.x rfl (B.d at_571) k) ?_
        refine g_stC B V203 (x' := (110 : Int32)) (by decide) ⟨by decide, by decide⟩ (i := 30) rfl (Nat.le_of_ble_eq_true rfl) at_573 (Safe.arv Wt204.1.alike V203 (by decide)) (by omega) (q := 574) rfl ?_
        intro h205 W205 A205
        refine g_wt (fun Wt206 => ?_)
        have z205 := W205.size
        have V205 : Arv Z h205 b143 k143 .char (36 : Int32) [(.int (104 : Int32)), (.int (116 : Int32)), (.int (116 : Int32)), (.int (112 : Int32)), (.int (115 : Int32)), (.int (58 : Int32)), (.int (47 : Int32)), (.int (47 : Int32)), (.int (111 : Int32)), (.int (99 : Int32)), (.int (102 : Int32)), (.int (108 : Int32)), (.int (46 : Int32)), (.int (105 : Int32)), (.int (111 : Int32)), (.int (47 : Int32)), (.int (49 : Int32)), (.int (46 : Int32)), (.int bs), (.int (47 : Int32)), (.int (115 : Int32)), (.int (112 : Int32)), (.int (101 : Int32)), (.int (99 : Int32)), (.int (47 : Int32)), (.int (35 : Int32)), (.int (105 : Int32)), (.int (110 : Int32)), (.int (118 : Int32)), (.int (101 : Int32)), (.int (110 : Int32)), (.int (0 : Int32)), (.int (0 : Int32)), (.int (0 : Int32)), (.int (0 : Int32)), (.int (0 : Int32))] (.int (0 : Int32)) := A205
        refine gs (mkF m 575 _ [(.ref b143), (.ref b143)]) (fun T A t k => XS.dup A B.x rfl (B.d at_574) rfl rfl k) ?_
        refine gs (mkF m 577 _ [(.int (31 : Int32)), (.ref b143), (.ref b143)]) (fun T A t k => XS.bipush A B.x rfl (B.d at_575) k) ?_
        refine gs (mkF m 579 _ [(.int (116 : Int32)), (.int (31 : Int32)), (.ref b143), (.ref b143)]) (fun T A t k => XS.bipush A B.x rfl (B.d at_577) k) ?_
        refine g_stC B V205 (x' := (116 : Int32)) (by decide) ⟨by decide, by decide⟩ (i := 31) rfl (Nat.le_of_ble_eq_true rfl) at_579 (Safe.arv Wt206.1.alike V205 (by decide)) (by omega) (q := 580) rfl ?_
        intro h207 W207 A207
        refine g_wt (fun Wt208 => ?_)
        have z207 := W207.size
        have V207 : Arv Z h207 b143 k143 .char (36 : Int32) [(.int (104 : Int32)), (.int (116 : Int32)), (.int (116 : Int32)), (.int (112 : Int32)), (.int (115 : Int32)), (.int (58 : Int32)), (.int (47 : Int32)), (.int (47 : Int32)), (.int (111 : Int32)), (.int (99 : Int32)), (.int (102 : Int32)), (.int (108 : Int32)), (.int (46 : Int32)), (.int (105 : Int32)), (.int (111 : Int32)), (.int (47 : Int32)), (.int (49 : Int32)), (.int (46 : Int32)), (.int bs), (.int (47 : Int32)), (.int (115 : Int32)), (.int (112 : Int32)), (.int (101 : Int32)), (.int (99 : Int32)), (.int (47 : Int32)), (.int (35 : Int32)), (.int (105 : Int32)), (.int (110 : Int32)), (.int (118 : Int32)), (.int (101 : Int32)), (.int (110 : Int32)), (.int (116 : Int32)), (.int (0 : Int32)), (.int (0 : Int32)), (.int (0 : Int32)), (.int (0 : Int32))] (.int (0 : Int32)) := A207
        refine gs (mkF m 581 _ [(.ref b143), (.ref b143)]) (fun T A t k => XS.dup A B.x rfl (B.d at_580) rfl rfl k) ?_
        refine gs (mkF m 583 _ [(.int (32 : Int32)), (.ref b143), (.ref b143)]) (fun T A t k => XS.bipush A B.x rfl (B.d at_581) k) ?_
        refine gs (mkF m 585 _ [(.int (111 : Int32)), (.int (32 : Int32)), (.ref b143), (.ref b143)]) (fun T A t k => XS.bipush A B.x rfl (B.d at_583) k) ?_
        refine g_stC B V207 (x' := (111 : Int32)) (by decide) ⟨by decide, by decide⟩ (i := 32) rfl (Nat.le_of_ble_eq_true rfl) at_585 (Safe.arv Wt208.1.alike V207 (by decide)) (by omega) (q := 586) rfl ?_
        intro h209 W209 A209
        refine g_wt (fun Wt210 => ?_)
        have z209 := W209.size
        have V209 : Arv Z h209 b143 k143 .char (36 : Int32) [(.int (104 : Int32)), (.int (116 : Int32)), (.int (116 : Int32)), (.int (112 : Int32)), (.int (115 : Int32)), (.int (58 : Int32)), (.int (47 : Int32)), (.int (47 : Int32)), (.int (111 : Int32)), (.int (99 : Int32)), (.int (102 : Int32)), (.int (108 : Int32)), (.int (46 : Int32)), (.int (105 : Int32)), (.int (111 : Int32)), (.int (47 : Int32)), (.int (49 : Int32)), (.int (46 : Int32)), (.int bs), (.int (47 : Int32)), (.int (115 : Int32)), (.int (112 : Int32)), (.int (101 : Int32)), (.int (99 : Int32)), (.int (47 : Int32)), (.int (35 : Int32)), (.int (105 : Int32)), (.int (110 : Int32)), (.int (118 : Int32)), (.int (101 : Int32)), (.int (110 : Int32)), (.int (116 : Int32)), (.int (111 : Int32)), (.int (0 : Int32)), (.int (0 : Int32)), (.int (0 : Int32))] (.int (0 : Int32)) := A209
        refine gs (mkF m 587 _ [(.ref b143), (.ref b143)]) (fun T A t k => XS.dup A B.x rfl (B.d at_586) rfl rfl k) ?_
        refine gs (mkF m 589 _ [(.int (33 : Int32)), (.ref b143), (.ref b143)]) (fun T A t k => XS.bipush A B.x rfl (B.d at_587) k) ?_
        refine gs (mkF m 591 _ [(.int (114 : Int32)), (.int (33 : Int32)), (.ref b143), (.ref b143)]) (fun T A t k => XS.bipush A B.x rfl (B.d at_589) k) ?_
        refine g_stC B V209 (x' := (114 : Int32)) (by decide) ⟨by decide, by decide⟩ (i := 33) rfl (Nat.le_of_ble_eq_true rfl) at_591 (Safe.arv Wt210.1.alike V209 (by decide)) (by omega) (q := 592) rfl ?_
        intro h211 W211 A211
        refine g_wt (fun Wt212 => ?_)
        have z211 := W211.size
        have V211 : Arv Z h211 b143 k143 .char (36 : Int32) [(.int (104 : Int32)), (.int (116 : Int32)), (.int (116 : Int32)), (.int (112 : Int32)), (.int (115 : Int32)), (.int (58 : Int32)), (.int (47 : Int32)), (.int (47 : Int32)), (.int (111 : Int32)), (.int (99 : Int32)), (.int (102 : Int32)), (.int (108 : Int32)), (.int (46 : Int32)), (.int (105 : Int32)), (.int (111 : Int32)), (.int (47 : Int32)), (.int (49 : Int32)), (.int (46 : Int32)), (.int bs), (.int (47 : Int32)), (.int (115 : Int32)), (.int (112 : Int32)), (.int (101 : Int32)), (.int (99 : Int32)), (.int (47 : Int32)), (.int (35 : Int32)), (.int (105 : Int32)), (.int (110 : Int32)), (.int (118 : Int32)), (.int (101 : Int32)), (.int (110 : Int32)), (.int (116 : Int32)), (.int (111 : Int32)), (.int (114 : Int32)), (.int (0 : Int32)), (.int (0 : Int32))] (.int (0 : Int32)) := A211
        refine gs (mkF m 593 _ [(.ref b143), (.ref b143)]) (fun T A t k => XS.dup A B.x rfl (B.d at_592) rfl rfl k) ?_
        refine gs (mkF m 595 _ [(.int (34 : Int32)), (.ref b143), (.ref b143)]) (fun T A t k => XS.bipush A B.x rfl (B.d at_593) k) ?_
        refine gs (mkF m 597 _ [(.int (121 : Int32)), (.int (34 : Int32)), (.ref b143), (.ref b143)]) (fun T A t k => XS.bipush A B.x rfl (B.d at_595) k) ?_
        refine g_stC B V211 (x' := (121 : Int32)) (by decide) ⟨by decide, by decide⟩ (i := 34) rfl (Nat.le_of_ble_eq_true rfl) at_597 (Safe.arv Wt212.1.alike V211 (by decide)) (by omega) (q := 598) rfl ?_
        intro h213 W213 A213
        refine g_wt (fun Wt214 => ?_)
        have z213 := W213.size
        have V213 : Arv Z h213 b143 k143 .char (36 : Int32) [(.int (104 : Int32)), (.int (116 : Int32)), (.int (116 : Int32)), (.int (112 : Int32)), (.int (115 : Int32)), (.int (58 : Int32)), (.int (47 : Int32)), (.int (47 : Int32)), (.int (111 : Int32)), (.int (99 : Int32)), (.int (102 : Int32)), (.int (108 : Int32)), (.int (46 : Int32)), (.int (105 : Int32)), (.int (111 : Int32)), (.int (47 : Int32)), (.int (49 : Int32)), (.int (46 : Int32)), (.int bs), (.int (47 : Int32)), (.int (115 : Int32)), (.int (112 : Int32)), (.int (101 : Int32)), (.int (99 : Int32)), (.int (47 : Int32)), (.int (35 : Int32)), (.int (105 : Int32)), (.int (110 : Int32)), (.int (118 : Int32)), (.int (101 : Int32)), (.int (110 : Int32)), (.int (116 : Int32)), (.int (111 : Int32)), (.int (114 : Int32)), (.int (121 : Int32)), (.int (0 : Int32))] (.int (0 : Int32)) := A213
        refine gs (mkF m 599 _ [(.ref b143), (.ref b143)]) (fun T A t k => XS.dup A B.x rfl (B.d at_598) rfl rfl k) ?_
        refine gs (mkF m 601 _ [(.int (35 : Int32)), (.ref b143), (.ref b143)]) (fun T A t k => XS.bipush A B.x rfl (B.d at_599) k) ?_
        refine gs (mkF m 603 _ [(.int cc), (.int (35 : Int32)), (.ref b143), (.ref b143)]) (fun T A t k => XS.iload A B.x rfl (B.d at_601) rfl k) ?_
        refine g_stC B V213 (x' := cc) (nar8 hcc) ⟨by decide, by decide⟩ (i := 35) rfl (Nat.le_of_ble_eq_true rfl) at_603 (Safe.arv Wt214.1.alike V213 (by decide)) (by omega) (q := 604) rfl ?_
        intro h215 W215 A215
        refine g_wt (fun Wt216 => ?_)
        have z215 := W215.size
        have V215 : Arv Z h215 b143 k143 .char (36 : Int32) [(.int (104 : Int32)), (.int (116 : Int32)), (.int (116 : Int32)), (.int (112 : Int32)), (.int (115 : Int32)), (.int (58 : Int32)), (.int (47 : Int32)), (.int (47 : Int32)), (.int (111 : Int32)), (.int (99 : Int32)), (.int (102 : Int32)), (.int (108 : Int32)), (.int (46 : Int32)), (.int (105 : Int32)), (.int (111 : Int32)), (.int (47 : Int32)), (.int (49 : Int32)), (.int (46 : Int32)), (.int bs), (.int (47 : Int32)), (.int (115 : Int32)), (.int (112 : Int32)), (.int (101 : Int32)), (.int (99 : Int32)), (.int (47 : Int32)), (.int (35 : Int32)), (.int (105 : Int32)), (.int (110 : Int32)), (.int (118 : Int32)), (.int (101 : Int32)), (.int (110 : Int32)), (.int (116 : Int32)), (.int (111 : Int32)), (.int (114 : Int32)), (.int (121 : Int32)), (.int cc)] (.int (0 : Int32)) := A215
        refine gs (mkF m 606 #[.val (.int p1), .val (.int p2), .val (.int p3), .val (.int p4), .val (.int cc), .val (.int bs), .val (.int kp), .val (.int (1 : Int32)), .val (.ref b143), .unset, .unset, .unset, .unset, .unset] []) (fun T A t k => XS.astore A B.x rfl (B.d at_604) rfl rfl (l' := #[.val (.int p1), .val (.int p2), .val (.int p3), .val (.int p4), .val (.int cc), .val (.int bs), .val (.int kp), .val (.int (1 : Int32)), .val (.ref b143), .unset, .unset, .unset, .unset, .unset]) rfl k) ?_
        have VC : Arv Z h215 b143 k143 .char (36 : Int32) ((inv bs ++ [cc]).map Value.int) (.int (0 : Int32)) := V215
        refine g_newO B (hw _ (List.mem_of_getElem? (i := 2) rfl)) (hw _ (List.mem_of_getElem? (i := 3) rfl)) (hw _ (List.mem_of_getElem? (i := 4) rfl)) at_606 (by decide) (by decide) (q := 609) rfl ?_
        intro h217 b217 g217 E217 S217 A217 D217
        refine g_wt (fun Wt218 => ?_)
        have z217 := E217.1; have y217 : @LT.lt Nat _ b217 h217.size := A217.lt
        have F217_coder : Fld Z h217 b217 "java/lang/String" "coder" "B" (.int (0 : Int32)) := D217 (Or.inr (hw _ (List.mem_of_getElem? (i := 28) rfl))) (ty := .byte) (by decide)
        have F217_value : Fld Z h217 b217 "java/lang/String" "value" "[B" .null := D217 (Or.inr (hw _ (List.mem_of_getElem? (i := 30) rfl))) (ty := (.array .byte)) (by decide)
        refine gs (mkF m 610 _ [(.ref b217), (.ref b217)]) (fun T A t k => XS.dup A B.x rfl (B.d at_609) rfl rfl k) ?_
        refine gs (mkF m 612 _ [(.ref b143), (.ref b217), (.ref b217)]) (fun T A t k => XS.aload A B.x rfl (B.d at_610) rfl rfl k) ?_
        refine g_pay (Q' := fun v h' L => v = none ∧ Fr n0 L ∧ Keep h217 h' [b217] ∧ ∃ t : Addr, @Eq Nat t h217.size ∧ Str Z h' b217 t (inv bs ++ [cc])) (k := 1) (n := 36) (c_init B rfl (hw _ (List.mem_of_getElem? (i := 5) rfl)) (hw _ (List.mem_of_getElem? (i := 6) rfl)) (hw _ (List.mem_of_getElem? (i := 7) rfl)) (by decide) rfl (lenOf pd_285bC29V rfl) rfl (Nat.le_of_eq rfl) at_612 rfl (argsL := [(.ref b143)]) (rest := [(.ref b217)]) (W := 1) (q := 615)) (fun hZ => own_new (inv bs ++ [cc]) 36 hZ (fun d hd => hw d (own_wnew d hd)) (hw _ (List.mem_of_getElem? (i := 3) rfl)) (n0 := n0) (by omega) (by omega) A217 F217_value F217_coder (VC.ext E217) (SC.ext ((((((((((((((((((((((((((((((((((((((PO.ext E143).wr W145 (by omega)).wr W147 (by omega)).wr W149 (by omega)).wr W151 (by omega)).wr W153 (by omega)).wr W155 (by omega)).wr W157 (by omega)).wr W159 (by omega)).wr W161 (by omega)).wr W163 (by omega)).wr W165 (by omega)).wr W167 (by omega)).wr W169 (by omega)).wr W171 (by omega)).wr W173 (by omega)).wr W175 (by omega)).wr W177 (by omega)).wr W179 (by omega)).wr W181 (by omega)).wr W183 (by omega)).wr W185 (by omega)).wr W187 (by omega)).wr W189 (by omega)).wr W191 (by omega)).wr W193 (by omega)).wr W195 (by omega)).wr W197 (by omega)).wr W199 (by omega)).wr W201 (by omega)).wr W203 (by omega)).wr W205 (by omega)).wr W207 (by omega)).wr W209 (by omega)).wr W211 (by omega)).wr W213 (by omega)).wr W215 (by omega)).ext E217).2) hzc rfl rfl (by decide) (by decide) (fun c hc => (List.mem_append.mp hc).elim (inv_r8 hb8 c) (fun q => by cases List.mem_singleton.mp q; exact hcc)) (by decide) (by decide)) (by decide) (by decide) (fun v h' L q => ⟨q.2.1, [b217], q.2.2.1, fun z hz => by cases List.mem_singleton.mp hz; exact S217⟩) ?_
        rintro v219 h219 L219 ⟨rfl, -, K219, t219, e219, X219⟩
        refine g_wt (fun Wt220 => ?_)
        have z219 := K219.1; have y219 := X219.lt; have x219 := X219.lt'
        refine g_met hEL (c_static B (hw _ (List.mem_of_getElem? (i := 31) rfl)) (hw _ (List.mem_of_getElem? (i := 32) rfl)) (hw _ (List.mem_of_getElem? (i := 33) rfl)) (hw _ (List.mem_of_getElem? (i := 34) rfl)) (by decide) rfl (lenOf pd_28Ljava2flang2fString3b29Lcom2fexample2faffixity2faffixity2focfl2fOcflVersion3b rfl) rfl (Nat.le_of_eq rfl) at_615 rfl (argsL := [(.ref b217)]) (rest := []) (W := 0) (q := 618)) (w_of l Z a0 hw hEL b217 va kv e0 e1 s0 s1 t0 t1 zc rv t219 (inv bs ++ [cc]) h219 n0 X219 PE (by omega) PX (((((((((((((((((((((((((((((((((((((((PO.ext E143).wr W145 (by omega)).wr W147 (by omega)).wr W149 (by omega)).wr W151 (by omega)).wr W153 (by omega)).wr W155 (by omega)).wr W157 (by omega)).wr W159 (by omega)).wr W161 (by omega)).wr W163 (by omega)).wr W165 (by omega)).wr W167 (by omega)).wr W169 (by omega)).wr W171 (by omega)).wr W173 (by omega)).wr W175 (by omega)).wr W177 (by omega)).wr W179 (by omega)).wr W181 (by omega)).wr W183 (by omega)).wr W185 (by omega)).wr W187 (by omega)).wr W189 (by omega)).wr W191 (by omega)).wr W193 (by omega)).wr W195 (by omega)).wr W197 (by omega)).wr W199 (by omega)).wr W201 (by omega)).wr W203 (by omega)).wr W205 (by omega)).wr W207 (by omega)).wr W209 (by omega)).wr W211 (by omega)).wr W213 (by omega)).wr W215 (by omega)).ext E217).keep K219 (allS (by omega) all0))) (hw _ (List.mem_of_getElem? (i := 34) rfl)) (hw _ (List.mem_of_getElem? (i := 33) rfl)) (by decide) (by decide) (by decide) (by decide) (fun _ q => nomatch q) ?_
        intro v221 h221 vm221 hZ221 C221 hQ221
        obtain ⟨ev221, K221⟩ := hQ221
        rw [show ofV e0 e1 (inv bs ++ [cc]) = .null from (of_len _ _ (by show 36 ≠ 35; decide))] at ev221; subst ev221
        refine g_wt (fun Wt222 => ?_)
        refine gs (mkF m 621 _ []) (fun T A t k => XS.ifnonnullNo A B.x rfl (B.d at_618) rfl k) ?_
        refine gs (mkF m 622 _ [(.int (1 : Int32))]) (fun T A t k => XS.iconst A B.x rfl (B.d at_621) k) ?_
        refine gs (mkF m 626 _ [(.int (1 : Int32))]) (fun T A t k => XS.goto A B.x rfl (pc0 := 622) (pc' := 626) rfl (B.d at_622) (by decide) (by decide) k) ?_
        exact g_retN (t := .boolean) B (by simp) at_626 (by decide) (by decide) rfl
      · refine gs (mkF m 43 _ [(.int (2 : Int32))]) (fun T A t k => XS.iload A B.x rfl (B.d at_41) rfl k) ?_
        refine gs (mkF m 384 _ []) (fun T A t k => XS.ifYes A B.x rfl (pc0 := 43) (pc' := 384) rfl (B.d at_43) rfl ((if0 _ _).trans (feq (by decide : ¬ ((2 : Int32) = (0 : Int32)))).2) (by decide) (by decide) k) ?_
        refine gs (mkF m 386 _ [(.int (2 : Int32))]) (fun T A t k => XS.iload A B.x rfl (B.d at_384) rfl k) ?_
        refine gs (mkF m 387 _ [(.int (1 : Int32)), (.int (2 : Int32))]) (fun T A t k => XS.iconst A B.x rfl (B.d at_386) k) ?_
        refine gs (mkF m 627 _ []) (fun T A t k => XS.icmpYes A B.x rfl (pc0 := 387) (pc' := 627) rfl (B.d at_387) rfl (feq (by decide : ¬ ((2 : Int32) = (1 : Int32)))).2 (by decide) (by decide) k) ?_
        refine gs (mkF m 629 _ [(.int (2 : Int32))]) (fun T A t k => XS.iload A B.x rfl (B.d at_627) rfl k) ?_
        refine gs (mkF m 630 _ [(.int (2 : Int32)), (.int (2 : Int32))]) (fun T A t k => XS.iconst A B.x rfl (B.d at_629) k) ?_
        refine gs (mkF m 633 _ []) (fun T A t k => XS.icmpNo A B.x rfl (B.d at_630) rfl (teq (by decide : (2 : Int32) = (2 : Int32))).2 k) ?_
        refine gs (mkF m 635 _ [(.int kp)]) (fun T A t k => XS.iload A B.x rfl (B.d at_633) rfl k) ?_
        rcases h_kp with rfl | rfl
        · refine gs (mkF m 643 _ []) (fun T A t k => XS.ifYes A B.x rfl (pc0 := 635) (pc' := 643) rfl (B.d at_635) rfl ((if0 _ _).trans (teq (by decide : (0 : Int32) = (0 : Int32))).1) (by decide) (by decide) k) ?_
          refine gs (mkF m 645 _ [(.int cc)]) (fun T A t k => XS.iload A B.x rfl (B.d at_643) rfl k) ?_
          refine g_metP (c_static B (hw _ (List.mem_of_getElem? (i := 201) rfl)) (hw _ (List.mem_of_getElem? (i := 202) rfl)) (hw _ (List.mem_of_getElem? (i := 4) rfl)) (hw _ (List.mem_of_getElem? (i := 203) rfl)) (by decide) rfl (lenOf pd_28C29Ljava2flang2fString3b rfl) rfl (Nat.le_of_eq rfl) at_645 rfl (argsL := [(.int cc)]) (rest := []) (W := 0) (q := 648)) (n_valueOf l Z a0 hw EW.nil (cc) zc rv h0 n0 hcc (by omega) PX PO) (hw _ (List.mem_of_getElem? (i := 203) rfl)) (hw _ (List.mem_of_getElem? (i := 4) rfl)) (by decide) (by decide) (by decide) (by decide) (fun v h' q => ⟨[], by obtain ⟨x, t, -, K, -⟩ := q; exact K, all0⟩) ?_
          intro v223 h223 hz223 hQ223
          obtain ⟨x223, t223, rfl, K223, X223⟩ := hQ223
          refine g_wt (fun Wt224 => ?_)
          have z223 := K223.1; have y223 := X223.lt; have w223 := X223.lt'
          refine gs (mkF m 650 #[.val (.int p1), .val (.int p2), .val (.int p3), .val (.int p4), .val (.int cc), .val (.int bs), .val (.int (0 : Int32)), .val (.int (2 : Int32)), .val (.ref x223), .unset, .unset, .unset, .unset, .unset] []) (fun T A t k => XS.astore A B.x rfl (B.d at_648) rfl rfl (l' := #[.val (.int p1), .val (.int p2), .val (.int p3), .val (.int p4), .val (.int cc), .val (.int bs), .val (.int (0 : Int32)), .val (.int (2 : Int32)), .val (.ref x223), .unset, .unset, .unset, .unset, .unset]) rfl k) ?_
          refine gs (mkF m 652 _ [(.ref x223)]) (fun T A t k => XS.aload A B.x rfl (B.d at_650) rfl rfl k) ?_
          refine g_met hEL (c_static B (hw _ (List.mem_of_getElem? (i := 31) rfl)) (hw _ (List.mem_of_getElem? (i := 32) rfl)) (hw _ (List.mem_of_getElem? (i := 33) rfl)) (hw _ (List.mem_of_getElem? (i := 34) rfl)) (by decide) rfl (lenOf pd_28Ljava2flang2fString3b29Lcom2fexample2faffixity2faffixity2focfl2fOcflVersion3b rfl) rfl (Nat.le_of_eq rfl) at_652 rfl (argsL := [(.ref x223)]) (rest := []) (W := 0) (q := 655)) (w_of l Z a0 hw hEL x223 va kv e0 e1 s0 s1 t0 t1 zc rv t223 [cc] h223 n0 X223 PE (by omega) PX (PO.keep K223 all0)) (hw _ (List.mem_of_getElem? (i := 34) rfl)) (hw _ (List.mem_of_getElem? (i := 33) rfl)) (by decide) (by decide) (by decide) (by decide) (fun _ q => nomatch q) ?_
          intro v225 h225 vm225 hZ225 C225 hQ225
          obtain ⟨ev225, K225⟩ := hQ225
          rw [show ofV e0 e1 [cc] = .null from (of_len _ _ (by show 1 ≠ 35; decide))] at ev225; subst ev225
          refine g_wt (fun Wt226 => ?_)
          refine gs (mkF m 658 _ []) (fun T A t k => XS.ifnonnullNo A B.x rfl (B.d at_655) rfl k) ?_
          refine gs (mkF m 659 _ [(.int (1 : Int32))]) (fun T A t k => XS.iconst A B.x rfl (B.d at_658) k) ?_
          refine gs (mkF m 663 _ [(.int (1 : Int32))]) (fun T A t k => XS.goto A B.x rfl (pc0 := 659) (pc' := 663) rfl (B.d at_659) (by decide) (by decide) k) ?_
          exact g_retN (t := .boolean) B (by simp) at_663 (by decide) (by decide) rfl
        · refine gs (mkF m 638 _ []) (fun T A t k => XS.ifNo A B.x rfl (B.d at_635) rfl ((if0 _ _).trans (feq (by decide : ¬ ((1 : Int32) = (0 : Int32)))).1) k) ?_
          refine g_ldcS (z := (0 : Int32)) (vs := []) (n := 0) B (hw _ (List.mem_of_getElem? (i := 214) rfl)) (fun d hd => hw d (own_wstr d hd)) (by decide) (by decide) (by decide) rfl at_638 (by decide) (by decide) (by decide) (by decide) (q := 640) rfl ?_
          intro h227 vm227 b227 t227 k227 hZ227 E227 C227 A227 F227c F227v V227 N227
          refine g_wt (fun Wt228 => ?_)
          have X227 : Str Z h227 b227 t227 ([] : List Int32) := Str.mk0 A227 F227v F227c V227 rfl rfl (by decide) (by decide)
          have z227 := E227.1; have y227 := X227.lt; have x227 := X227.lt'
          refine gs (mkF m 648 _ [(.ref b227)]) (fun T A t k => XS.goto A B.x rfl (pc0 := 640) (pc' := 648) rfl (B.d at_640) (by decide) (by decide) k) ?_
          refine gs (mkF m 650 #[.val (.int p1), .val (.int p2), .val (.int p3), .val (.int p4), .val (.int cc), .val (.int bs), .val (.int (1 : Int32)), .val (.int (2 : Int32)), .val (.ref b227), .unset, .unset, .unset, .unset, .unset] []) (fun T A t k => XS.astore A B.x rfl (B.d at_648) rfl rfl (l' := #[.val (.int p1), .val (.int p2), .val (.int p3), .val (.int p4), .val (.int cc), .val (.int bs), .val (.int (1 : Int32)), .val (.int (2 : Int32)), .val (.ref b227), .unset, .unset, .unset, .unset, .unset]) rfl k) ?_
          refine gs (mkF m 652 _ [(.ref b227)]) (fun T A t k => XS.aload A B.x rfl (B.d at_650) rfl rfl k) ?_
          refine g_met hEL (c_static B (hw _ (List.mem_of_getElem? (i := 31) rfl)) (hw _ (List.mem_of_getElem? (i := 32) rfl)) (hw _ (List.mem_of_getElem? (i := 33) rfl)) (hw _ (List.mem_of_getElem? (i := 34) rfl)) (by decide) rfl (lenOf pd_28Ljava2flang2fString3b29Lcom2fexample2faffixity2faffixity2focfl2fOcflVersion3b rfl) rfl (Nat.le_of_eq rfl) at_652 rfl (argsL := [(.ref b227)]) (rest := []) (W := 0) (q := 655)) (w_of l Z a0 hw hEL b227 va kv e0 e1 s0 s1 t0 t1 zc rv t227 ([] : List Int32) h227 n0 X227 PE (by omega) PX (PO.ext E227)) (hw _ (List.mem_of_getElem? (i := 34) rfl)) (hw _ (List.mem_of_getElem? (i := 33) rfl)) (by decide) (by decide) (by decide) (by decide) (fun _ q => nomatch q) ?_
          intro v229 h229 vm229 hZ229 C229 hQ229
          obtain ⟨ev229, K229⟩ := hQ229
          rw [show ofV e0 e1 ([] : List Int32) = .null from (of_len _ _ (by decide))] at ev229; subst ev229
          refine g_wt (fun Wt230 => ?_)
          refine gs (mkF m 658 _ []) (fun T A t k => XS.ifnonnullNo A B.x rfl (B.d at_655) rfl k) ?_
          refine gs (mkF m 659 _ [(.int (1 : Int32))]) (fun T A t k => XS.iconst A B.x rfl (B.d at_658) k) ?_
          refine gs (mkF m 663 _ [(.int (1 : Int32))]) (fun T A t k => XS.goto A B.x rfl (pc0 := 659) (pc' := 663) rfl (B.d at_659) (by decide) (by decide) k) ?_
          exact g_retN (t := .boolean) B (by simp) at_663 (by decide) (by decide) rfl
      · refine gs (mkF m 43 _ [(.int (3 : Int32))]) (fun T A t k => XS.iload A B.x rfl (B.d at_41) rfl k) ?_
        refine gs (mkF m 384 _ []) (fun T A t k => XS.ifYes A B.x rfl (pc0 := 43) (pc' := 384) rfl (B.d at_43) rfl ((if0 _ _).trans (feq (by decide : ¬ ((3 : Int32) = (0 : Int32)))).2) (by decide) (by decide) k) ?_
        refine gs (mkF m 386 _ [(.int (3 : Int32))]) (fun T A t k => XS.iload A B.x rfl (B.d at_384) rfl k) ?_
        refine gs (mkF m 387 _ [(.int (1 : Int32)), (.int (3 : Int32))]) (fun T A t k => XS.iconst A B.x rfl (B.d at_386) k) ?_
        refine gs (mkF m 627 _ []) (fun T A t k => XS.icmpYes A B.x rfl (pc0 := 387) (pc' := 627) rfl (B.d at_387) rfl (feq (by decide : ¬ ((3 : Int32) = (1 : Int32)))).2 (by decide) (by decide) k) ?_
        refine gs (mkF m 629 _ [(.int (3 : Int32))]) (fun T A t k => XS.iload A B.x rfl (B.d at_627) rfl k) ?_
        refine gs (mkF m 630 _ [(.int (2 : Int32)), (.int (3 : Int32))]) (fun T A t k => XS.iconst A B.x rfl (B.d at_629) k) ?_
        refine gs (mkF m 664 _ []) (fun T A t k => XS.icmpYes A B.x rfl (pc0 := 630) (pc' := 664) rfl (B.d at_630) rfl (feq (by decide : ¬ ((3 : Int32) = (2 : Int32)))).2 (by decide) (by decide) k) ?_
        refine gs (mkF m 665 _ [.null]) (fun T A t k => XS.aconstNull A B.x rfl (B.d at_664) k) ?_
        refine g_met hEL (c_static B (hw _ (List.mem_of_getElem? (i := 31) rfl)) (hw _ (List.mem_of_getElem? (i := 32) rfl)) (hw _ (List.mem_of_getElem? (i := 33) rfl)) (hw _ (List.mem_of_getElem? (i := 34) rfl)) (by decide) rfl (lenOf pd_28Ljava2flang2fString3b29Lcom2fexample2faffixity2faffixity2focfl2fOcflVersion3b rfl) rfl (Nat.le_of_eq rfl) at_665 rfl (argsL := [.null]) (rest := []) (W := 0) (q := 668)) (w_of0 l Z a0 hw hEL  va kv e0 e1 s0 s1 t0 t1 zc rv h0 n0 PE (by omega) PX PO) (hw _ (List.mem_of_getElem? (i := 34) rfl)) (hw _ (List.mem_of_getElem? (i := 33) rfl)) (by decide) (by decide) (by decide) (by decide) (fun _ q => nomatch q) ?_
        intro v231 h231 vm231 hZ231 C231 hQ231
        obtain ⟨rfl, K231⟩ := hQ231
        refine g_wt (fun Wt232 => ?_)
        refine gs (mkF m 671 _ []) (fun T A t k => XS.ifnonnullNo A B.x rfl (B.d at_668) rfl k) ?_
        refine gs (mkF m 672 _ [(.int (1 : Int32))]) (fun T A t k => XS.iconst A B.x rfl (B.d at_671) k) ?_
        refine gs (mkF m 676 _ [(.int (1 : Int32))]) (fun T A t k => XS.goto A B.x rfl (pc0 := 672) (pc' := 676) rfl (B.d at_672) (by decide) (by decide) k) ?_
        exact g_retN (t := .boolean) B (by simp) at_676 (by decide) (by decide) rfl
    · by_cases hc26_233 : (p4 &&& (2 : Int32)) = (0 : Int32)
      · refine gs (mkF m 33 _ []) (fun T A t k => XS.ifYes A B.x rfl (pc0 := 26) (pc' := 33) rfl (B.d at_26) rfl ((if0 _ _).trans (teq (hc26_233 : (p4 &&& (2 : Int32)) = (0 : Int32))).1) (by decide) (by decide) k) ?_
        refine gs (mkF m 34 _ [(.int (0 : Int32))]) (fun T A t k => XS.iconst A B.x rfl (B.d at_33) k) ?_
        exact J _ (Or.inl rfl)
      · refine gs (mkF m 29 _ []) (fun T A t k => XS.ifNo A B.x rfl (B.d at_26) rfl ((if0 _ _).trans (feq (hc26_233 : ¬ ((p4 &&& (2 : Int32)) = (0 : Int32)))).1) k) ?_
        refine gs (mkF m 30 _ [(.int (1 : Int32))]) (fun T A t k => XS.iconst A B.x rfl (B.d at_29) k) ?_
        refine gs (mkF m 34 _ [(.int (1 : Int32))]) (fun T A t k => XS.goto A B.x rfl (pc0 := 30) (pc' := 34) rfl (B.d at_30) (by decide) (by decide) k) ?_
        exact J _ (Or.inr rfl)
  · by_cases hc11_234 : (p4 &&& (1 : Int32)) = (0 : Int32)
    · refine gs (mkF m 14 _ []) (fun T A t k => XS.ifNo A B.x rfl (B.d at_11) rfl ((if0 _ _).trans (teq (hc11_234 : (p4 &&& (1 : Int32)) = (0 : Int32))).2) k) ?_
      refine gs (mkF m 16 _ [(.int (48 : Int32))]) (fun T A t k => XS.bipush A B.x rfl (B.d at_14) k) ?_
      refine gs (mkF m 21 _ [(.int (48 : Int32))]) (fun T A t k => XS.goto A B.x rfl (pc0 := 16) (pc' := 21) rfl (B.d at_16) (by decide) (by decide) k) ?_
      exact J _ (Or.inl rfl)
    · refine gs (mkF m 19 _ []) (fun T A t k => XS.ifYes A B.x rfl (pc0 := 11) (pc' := 19) rfl (B.d at_11) rfl ((if0 _ _).trans (feq (hc11_234 : ¬ ((p4 &&& (1 : Int32)) = (0 : Int32)))).2) (by decide) (by decide) k) ?_
      refine gs (mkF m 21 _ [(.int (49 : Int32))]) (fun T A t k => XS.bipush A B.x rfl (B.d at_19) k) ?_
      exact J _ (Or.inr rfl)
set_option maxRecDepth 65536 in
set_option maxHeartbeats 40000000 in
theorem comes_1 {Post : Tables → Env → Array Value → State → Outcome → State → Prop} (hpost : ∀ tb e args s v u, (limb_1_1.after args s (.returned v) u = true ∧ limb_1_2.after args s (.returned v) u = true ∧ True) → ReturnedEndW s (.returned v) u (Jvm.fieldLocs frame_1_writes args s ++ Jvm.arrayLocs frame_1_arrays args s ++ Jvm.staticLocs frame_1_statics s) 48 3968 → Post tb e args s (.returned v) u) :
    ArmFor flags0 classFile x code maxLocals ret World_1 tables_1 room_1 Calls_1 rest_1 Pre_1 Post := by
  intro l hfl _ _ p e ha hc hk s m args below hf hA hF happ hP
  obtain ⟨hcalls, hrest, hpre⟩ := hP
  obtain ⟨-, -, -, hnamed, -, -, -, hat⟩ := (Spec.applies_iff hf).mp happ
  obtain ⟨hg, hn⟩ := and_e (Cond.before_iff.mp (show (Jvm.Cond.and given_1 narrow_1).before args s = true from hpre))
  obtain ⟨gc, gr0⟩ := and_e hg
  obtain ⟨ga0, gr1⟩ := and_e gr0
  obtain ⟨ga1, gr2⟩ := and_e gr1
  obtain ⟨ga2, gr3⟩ := and_e gr2
  have ga3 := gr3
  obtain ⟨w0, w1, w2, w3, rfl⟩ : ∃ w0 w1 w2 w3 : Value, args = #[w0, w1, w2, w3] := by
    have hs : args.size = 4 := by simpa [Cond.value, given_1] using gc
    obtain ⟨L⟩ := args
    match L, hs with
    | [w0, w1, w2, w3], _ => exact ⟨w0, w1, w2, w3, rfl⟩
  have hw := fun d (hd : d ∈ tables_1) => atoms_spec (ws := Jvm.Cond.code x code maxLocals ret :: tables_1) hat d (List.mem_cons_of_mem _ hd)
  have hfit : Fit s := fun {y c} hc i hi => by
    obtain ⟨ha, rfl⟩ := Array.getElem?_eq_some_iff.mp hc
    have q := List.all_eq_true.mp ((Array.all_eq_true_iff_forall_mem.mp hF) _ (Array.getElem_mem ha)) i (List.mem_range.mpr hi)
    simpa [Array.getElem?_eq_getElem hi] using q
  obtain ⟨hsets, hown0⟩ := atoms_of _ (rest_1_c_eq ▸ (show rest_1_c.before _ s = true from hrest))
  obtain ⟨i0, ei0⟩ := is_v ga0
  obtain rfl : w0 = (.int i0) := Option.some.inj ei0
  obtain ⟨i1, ei1⟩ := is_v ga1
  obtain rfl : w1 = (.int i1) := Option.some.inj ei1
  obtain ⟨i2, ei2⟩ := is_v ga2
  obtain rfl : w2 = (.int i2) := Option.some.inj ei2
  obtain ⟨i3, ei3⟩ := is_v ga3
  obtain rfl : w3 = (.int i3) := Option.some.inj ei3
  have ncs := not_v (Cond.before_iff.mp (hsets _ (List.mem_of_getElem? (i := 2) rfl)))
  obtain ⟨zc, ezc⟩ := is_v (Cond.before_iff.mp (hsets _ (List.mem_of_getElem? (i := 1) rfl)))
  have SC : Sta s s.heap "java/lang/String" "COMPACT_STRINGS" "Z" (.int zc) := Sta.start ezc (Or.inl (hsets _ (List.mem_of_getElem? (i := 0) rfl)))
  have hzc : ¬ (zc = (0 : Int32)) := gotF (Cond.eq_ints ezc (Term.int_eval (0))) ncs
  obtain ⟨nw0, nr0⟩ := and_e hn
  obtain ⟨nw1, nr1⟩ := and_e nr0
  obtain ⟨nw2, nr2⟩ := and_e nr1
  obtain ⟨nw3, nr3⟩ := and_e nr2
  obtain ⟨nw4, nr4⟩ := and_e nr3
  obtain ⟨nw5, nr5⟩ := and_e nr4
  obtain ⟨nw6, nr6⟩ := and_e nr5
  obtain ⟨nw7, nr7⟩ := and_e nr6
  obtain ⟨nw8, nr8⟩ := and_e nr7
  obtain ⟨nw9, nr9⟩ := and_e nr8
  obtain ⟨nw10, nr10⟩ := and_e nr9
  obtain ⟨nw11, nr11⟩ := and_e nr10
  obtain ⟨nw12, nr12⟩ := and_e nr11
  obtain ⟨nw13, nr13⟩ := and_e nr12
  obtain ⟨nw14, nr14⟩ := and_e nr13
  obtain ⟨nw15, nr15⟩ := and_e nr14
  obtain ⟨nw16, nr16⟩ := and_e nr15
  obtain ⟨nw17, nr17⟩ := and_e nr16
  obtain ⟨nw18, nr18⟩ := and_e nr17
  obtain ⟨nw19, nr19⟩ := and_e nr18
  obtain ⟨nw20, nr20⟩ := and_e nr19
  obtain ⟨nw21, nr21⟩ := and_e nr20
  have nw22 := nr21
  obtain ⟨e0, ev0⟩ := exa_v nw3
  have St0 : Sta s s.heap "com/example/affixity/affixity/ocfl/OcflVersion" "V1_0" "Lcom/example/affixity/affixity/ocfl/OcflVersion;" (.ref e0) := Sta.start ev0 (Or.inr ⟨(hw _ (List.mem_of_getElem? (i := 33) rfl)), (hw _ (List.mem_of_getElem? (i := 47) rfl))⟩)
  have Ge0 : Exa s s.heap e0 "com/example/affixity/affixity/ocfl/OcflVersion" := Exa.start ev0 nw3
  obtain ⟨s0, es0⟩ := exa_v nw7
  have Fv0 : Fld s s.heap e0 "com/example/affixity/affixity/ocfl/OcflVersion" "number" "Ljava/lang/String;" (.ref s0) := Fld.start ((fld_at ev0).symm.trans es0)
  obtain ⟨t0, Xs0⟩ := str_start hfit es0 nw7 nw11 nw8 nw10 nw12 nw13 nw14 (by decide) rfl
  obtain ⟨e1, ev1⟩ := exa_v nw5
  have St1 : Sta s s.heap "com/example/affixity/affixity/ocfl/OcflVersion" "V1_1" "Lcom/example/affixity/affixity/ocfl/OcflVersion;" (.ref e1) := Sta.start ev1 (Or.inr ⟨(hw _ (List.mem_of_getElem? (i := 33) rfl)), (hw _ (List.mem_of_getElem? (i := 48) rfl))⟩)
  have Ge1 : Exa s s.heap e1 "com/example/affixity/affixity/ocfl/OcflVersion" := Exa.start ev1 nw5
  obtain ⟨s1, es1⟩ := exa_v nw15
  have Fv1 : Fld s s.heap e1 "com/example/affixity/affixity/ocfl/OcflVersion" "number" "Ljava/lang/String;" (.ref s1) := Fld.start ((fld_at ev1).symm.trans es1)
  obtain ⟨t1, Xs1⟩ := str_start hfit es1 nw15 nw19 nw16 nw18 nw20 nw21 nw22 (by decide) rfl
  obtain ⟨va, eva⟩ := arr_v nw0
  obtain ⟨cv, Av⟩ := Arr.start eva nw0
  obtain ⟨qv, zv⟩ := len_start eva Av nw2
  have Hv : HasL cv 0 [.ref e0, .ref e1] := ⟨elem_start eva Av (eq_ref nw4 ev0), elem_start eva Av (eq_ref nw6 ev1), trivial⟩
  have Vv : Arv s s.heap va cv.cls (.object "com/example/affixity/affixity/ocfl/OcflVersion") 2 [.ref e0, .ref e1] .null := Arv.start hfit Av qv zv (by decide) rfl Hv
  have Ev : Exa s s.heap va "[Lcom/example/affixity/affixity/ocfl/OcflVersion;" := Exa.start eva nw1
  have Sv : Sta s s.heap "com/example/affixity/affixity/ocfl/OcflVersion" "$VALUES" "[Lcom/example/affixity/affixity/ocfl/OcflVersion;" (.ref va) := Sta.start eva (Or.inr ⟨(hw _ (List.mem_of_getElem? (i := 33) rfl)), (hw _ (List.mem_of_getElem? (i := 39) rfl))⟩)
  have PE : Enums s va cv.cls e0 e1 s0 s1 t0 t1 := ⟨⟨St0, Ge0, Fv0, Xs0⟩, ⟨St1, Ge1, Fv1, Xs1⟩, Sv, Ev, Vv⟩
  obtain ⟨rv, erv, rf⟩ := isR_v (Cond.before_iff.mp (hsets _ (List.mem_of_getElem? (i := 8) rfl)))
  have PX : Sts s zc rv := ⟨SC, hzc, Sta.start erv (Or.inl (hsets _ (List.mem_of_getElem? (i := 7) rfl))), rf⟩
  have hEL : EW s _ consts_1 := (EW.cons (hw _ (List.mem_of_getElem? (i := 75) rfl)) (by decide) (EW.cons (hw _ (List.mem_of_getElem? (i := 150) rfl)) (by decide) (EW.cons (hw _ (List.mem_of_getElem? (i := 214) rfl)) (by decide) EW.nil)))
  have hCH : CHv s consts_1 s.vm s.heap := CHv.start hEL (fun p hp => hcalls.1 p hp) (hsets _ (List.mem_of_getElem? (i := 2) rfl)) (hw _ (List.mem_of_getElem? (i := 20) rfl)) (hw _ (List.mem_of_getElem? (i := 3) rfl))
  obtain ⟨n, o, h1, h2, h3, v, L, rfl, ⟨rfl, N⟩, -, hE, hq⟩ := own_law l s _ hw hEL i0 i1 i2 i3 va cv.cls e0 e1 s0 s1 t0 t1 zc rv s.heap s.heap.size PE (Nat.le_refl _) PX (Old.start s) tables_1 p e ha hc hk s m _ below hf ((Spec.applies_iff_loose hf).mp happ).1 ⟨rfl, State.Warmed39.refl s, rfl, hCH, (fun _ q => nomatch q)⟩ trivial
  refine ⟨n, _, h1, h2, h3, hpost _ _ _ _ _ _ ⟨Cond.after_iff.mpr rfl, Cond.after_iff.mpr (eq_i res_at (Term.int_eval (1)) rfl), trivial⟩ ⟨hE.1, hE.2.1, hE.2.2.1, (hE.2.2.2.sift fun y hy => Or.inr (N y hy)).mono (by decide) (by decide)⟩⟩
theorem main_1_1 : Claimed_1_1 := comes_1 fun _ _ _ _ _ _ h hF => ⟨h.1, hF⟩
theorem main_1_2 : Claimed_1_2 := comes_1 fun _ _ _ _ _ _ h hF => ⟨h.2.1, hF⟩
end Jvm.Pilot.@@N@@
namespace Jvm.Pilot.@@N@@
open Jvm Jvm.ClassFile Sem Op Lib Jvm.Free Jvm.Stand Jvm.Pilot.@@N@@.Jvm.D
/-! MADE BY PROGRAM (witnessworld.py) out of the Statement's table words and the real class files: 28 classes; the members and pool entries that the words name. The judged class is class 1, her method 1. -/
namespace start1
open Jvm.ClassFile
def u (s : String) : CpInfo := .utf8 (stringToUtf16 s)
/-- a pool by its gaps: so many unusable entries, then the entry; so many at the end -/
def gap : Nat → List CpInfo → List CpInfo
  | 0, r => r
  | n + 1, r => .unusable :: gap n r
def poolList (es : List (Nat × CpInfo)) (last : Nat) : List CpInfo := es.foldr (fun e r => gap e.1 (e.2 :: r)) (gap last [])
def pool (es : List (Nat × CpInfo)) (last : Nat) : Array CpInfo := ⟨poolList es last⟩
def fileOf (pool : Array CpInfo) (this : Nat) (attrs : Array Attribute := #[]) (ms : Array MethodInfo := #[]) (fl : Nat := 33) (sup : Nat := 0) (ifs : Array Nat := #[]) (fds : Array FieldInfo := #[]) : ClassFile where
  minorVersion := 0
  majorVersion := 65
  constantPool := pool
  accessFlags := fl
  thisClass := this
  superClass := sup
  interfaces := ifs
  fields := fds
  methods := ms
  attributes := attrs
def plain (name : String) (sup : Option ClassId) : Class where
  name := name
  kind := .ordinary
  loader := none
  accessFlags := 33
  super := sup
  interfaces := #[]
  cf := none
  fields := #[]
  methods := #[]
  instanceTypes := #[]
  staticTypes := #[]
  resolved := #[]
  callSites := []
  init := .initialized
  statics := none
  mirror := none

def pool0 : Array CpInfo := pool [(5, u "<init>"), (0, u "()V"), (1, .class_ 10), (1, u "java/lang/Object"), (85, u "clone"), (0, u "()Ljava/lang/Object;")] 26

def k0c0 : Code := { maxStack := 0, maxLocals := 1, code := object_method_1_code, exceptionTable := #[], attributes := #[] }
def k0m0 : Method := { name := "<init>", desc := "()V", sig := { parameters := [], returnType := none }, accessFlags := 1, code := some k0c0 }
def k0m1 : Method := { name := "clone", desc := "()Ljava/lang/Object;", sig := { parameters := [], returnType := some (.object "java/lang/Object") }, accessFlags := 260, code := none }
/-- java/lang/Object -/
def k0 : Class := { plain "java/lang/Object" none with
  accessFlags := 33
  interfaces := #[]
  cf := some (fileOf pool0 8 #[] #[{ accessFlags := 1, nameIndex := 5, descriptorIndex := 6, attributes := #[] }, { accessFlags := 260, nameIndex := 96, descriptorIndex := 97, attributes := #[] }] 33 0 #[] #[])
  fields := #[]
  methods := #[k0m0, k0m1]
  instanceTypes := #[]
  staticTypes := #[]
  resolved := Array.replicate 124 none
  statics := none }

def pool1 : Array CpInfo := pool [(2, .class_ 4), (1, u "java/lang/Object"), (0, u "<init>"), (0, u "()V"), (0, .integer 2147483647), (0, .fieldref 9 10), (0, .class_ 11), (0, .nameAndType 12 13), (0, u "com/example/affixity/affixity/ocfl/OcflVersion"), (0, u "V1_0"), (0, u "Lcom/example/affixity/affixity/ocfl/OcflVersion;"), (0, .fieldref 9 15), (0, .nameAndType 16 13), (0, u "V1_1"), (0, .class_ 18), (0, u "java/lang/String"), (0, .methodref 17 20), (0, .nameAndType 5 21), (0, u "([C)V"), (0, .methodref 9 23), (0, .nameAndType 24 25), (0, u "ofInventoryType"), (0, u "(Ljava/lang/String;)Lcom/example/affixity/affixity/ocfl/OcflVersion;"), (0, .string 27), (0, u ""), (0, .methodref 17 29), (0, .nameAndType 30 31), (0, u "valueOf"), (0, u "(C)Ljava/lang/String;"), (0, .class_ 33), (0, u "com/example/affixity/affixity/ocfl/OcflVersionOfInventoryTypePinLaw"), (2, u "law"), (0, u "(IIII)Z")] 5

def k1m0 : Method := { name := "<init>", desc := "()V", sig := { parameters := [], returnType := none }, accessFlags := 1, code := none }
def k1c1 : Code := { maxStack := 4, maxLocals := 14, code := code, exceptionTable := #[], attributes := #[] }
def k1m1 : Method := { name := "law", desc := "(IIII)Z", sig := { parameters := [.int, .int, .int, .int], returnType := some .boolean }, accessFlags := 9, code := some k1c1 }
/-- com/example/affixity/affixity/ocfl/OcflVersionOfInventoryTypePinLaw -/
def k1 : Class := { plain "com/example/affixity/affixity/ocfl/OcflVersionOfInventoryTypePinLaw" (some 0) with
  accessFlags := 49
  interfaces := #[]
  cf := some (fileOf pool1 32 #[] #[{ accessFlags := 1, nameIndex := 5, descriptorIndex := 6, attributes := #[] }, { accessFlags := 9, nameIndex := 36, descriptorIndex := 37, attributes := #[] }] 49 2 #[] #[])
  fields := #[]
  methods := #[k1m0, k1m1]
  instanceTypes := #[]
  staticTypes := #[]
  resolved := Array.replicate 43 none
  statics := none }

def pool2 : Array CpInfo := pool [(1, .class_ 2), (0, u "java/io/Serializable"), (0, .class_ 4), (0, u "java/lang/Object")] 2

/-- java/io/Serializable -/
def k2 : Class := { plain "java/io/Serializable" (some 0) with
  accessFlags := 1537
  interfaces := #[]
  cf := some (fileOf pool2 1 #[] #[] 1537 3 #[] #[])
  fields := #[]
  methods := #[]
  instanceTypes := #[]
  staticTypes := #[]
  resolved := Array.replicate 7 none
  statics := none }

def pool3 : Array CpInfo := pool [(1, .class_ 2), (0, u "java/lang/Comparable"), (0, .class_ 4), (0, u "java/lang/Object")] 7

/-- java/lang/Comparable -/
def k3 : Class := { plain "java/lang/Comparable" (some 0) with
  accessFlags := 1537
  interfaces := #[]
  cf := some (fileOf pool3 1 #[] #[] 1537 3 #[] #[])
  fields := #[]
  methods := #[]
  instanceTypes := #[]
  staticTypes := #[]
  resolved := Array.replicate 12 none
  statics := none }

def pool4 : Array CpInfo := pool [(2, .class_ 4), (1, u "java/lang/CharSequence"), (42, .class_ 48), (0, u "java/lang/CharSequence$1CodePointIterator"), (10, .class_ 60), (0, u "java/lang/CharSequence$1CharIterator"), (5, .class_ 67), (0, u "java/lang/Object")] 63

/-- java/lang/CharSequence -/
def k4 : Class := { plain "java/lang/CharSequence" (some 0) with
  accessFlags := 1537
  interfaces := #[]
  cf := some (fileOf pool4 2 #[.nestMembers #[47, 59]] #[] 1537 66 #[] #[])
  fields := #[]
  methods := #[]
  instanceTypes := #[]
  staticTypes := #[]
  resolved := Array.replicate 131 none
  statics := none }

def pool5 : Array CpInfo := pool [(1, .class_ 2), (0, u "java/lang/constant/Constable"), (0, .class_ 4), (0, u "java/lang/Object")] 6

/-- java/lang/constant/Constable -/
def k5 : Class := { plain "java/lang/constant/Constable" (some 0) with
  accessFlags := 1537
  interfaces := #[]
  cf := some (fileOf pool5 1 #[] #[] 1537 3 #[] #[])
  fields := #[]
  methods := #[]
  instanceTypes := #[]
  staticTypes := #[]
  resolved := Array.replicate 11 none
  statics := none }

def pool6 : Array CpInfo := pool [(1, .class_ 2), (0, u "java/lang/constant/ConstantDesc"), (0, .class_ 4), (0, u "java/lang/Object")] 32

/-- java/lang/constant/ConstantDesc -/
def k6 : Class := { plain "java/lang/constant/ConstantDesc" (some 0) with
  accessFlags := 1537
  interfaces := #[]
  cf := some (fileOf pool6 1 #[] #[] 1537 3 #[] #[])
  fields := #[]
  methods := #[]
  instanceTypes := #[]
  staticTypes := #[]
  resolved := Array.replicate 37 none
  statics := none }

def pool7 : Array CpInfo := pool [(1, .methodref 2 3), (0, .class_ 4), (0, .nameAndType 5 6), (0, u "java/lang/Object"), (0, u "<init>"), (0, u "()V"), (2, .fieldref 10 11), (0, .class_ 12), (0, .nameAndType 13 14), (0, u "java/lang/String"), (0, u "value"), (0, u "[B"), (0, .fieldref 10 16), (0, .nameAndType 17 18), (0, u "coder"), (0, u "B"), (2, u "hash"), (0, u "I"), (2, u "hashIsZero"), (0, u "Z"), (0, .methodref 10 28), (0, .nameAndType 5 29), (0, u "([CIILjava/lang/Void;)V"), (8, .fieldref 10 39), (0, .nameAndType 40 26), (0, u "COMPACT_STRINGS"), (1, .class_ 44), (1, u "java/lang/StringUTF16"), (0, u "compress"), (1, .methodref 42 48), (0, .nameAndType 49 50), (0, u "coderFromArrayLen"), (0, u "([BI)B"), (2, u "toBytes"), (0, .methodref 55 56), (0, .class_ 57), (0, .nameAndType 58 59), (0, u "java/util/Arrays"), (0, u "copyOfRange"), (0, u "([BII)[B"), (47, .class_ 109), (1, u "java/lang/StringLatin1"), (32, u "()Z"), (34, .methodref 42 178), (0, .nameAndType 45 179), (0, u "([CII)[B"), (13, .class_ 195), (1, u "java/lang/System"), (13, .methodref 10 210), (0, .nameAndType 5 211), (0, u "([BB)V"), (0, .methodref 193 213), (0, .nameAndType 214 215), (0, u "arraycopy"), (0, u "(Ljava/lang/Object;ILjava/lang/Object;II)V"), (118, u "()I"), (0, .methodref 10 336), (0, .nameAndType 17 337), (0, u "()B"), (2, u "()[B"), (28, u "(C)Z"), (119, .methodref 10 490), (0, .nameAndType 5 491), (0, u "(Ljava/lang/AbstractStringBuilder;Ljava/lang/Void;)V"), (1, .nameAndType 494 142), (0, u "isLatin1"), (11, .nameAndType 507 334), (0, u "length"), (24, u "getBytes"), (8, .methodref 107 542), (0, .nameAndType 543 544), (0, u "equals"), (0, u "([B[B)Z"), (4, .methodref 550 506), (0, .class_ 551), (0, u "java/lang/AbstractStringBuilder"), (0, .methodref 550 553), (0, .nameAndType 554 340), (0, u "getValue"), (18, u "(Ljava/lang/Object;)Z"), (1, .class_ 576), (0, u "java/lang/CharSequence"), (22, u "CASE_INSENSITIVE_ORDER"), (0, u "Ljava/util/Comparator;"), (181, u "valueOf"), (0, u "(C)Ljava/lang/String;"), (37, u "([BIB)V"), (188, u "([C)V"), (4, .methodref 107 1016), (0, .nameAndType 1017 369), (0, u "canEncode"), (0, .methodref 107 1019), (0, .nameAndType 53 1020), (0, u "(C)[B"), (26, .methodref 550 493), (53, u "serialPersistentFields"), (0, u "[Ljava/io/ObjectStreamField;"), (0, .class_ 1104), (0, u "java/lang/String$CaseInsensitiveComparator"), (1, .class_ 1107), (0, u "java/io/Serializable"), (0, .class_ 1109), (0, u "java/lang/Comparable"), (0, .class_ 1111), (0, u "java/lang/constant/Constable"), (0, .class_ 1113), (0, u "java/lang/constant/ConstantDesc"), (2, u "serialVersionUID"), (0, u "J"), (3, u "REPL"), (0, u "C"), (2, u "LATIN1"), (1, u "UTF16"), (105, u "(Ljava/lang/StringBuilder;)V")] 217

def k7m0 : Method := { name := "<init>", desc := "()V", sig := { parameters := [], returnType := none }, accessFlags := 1, code := none }
def k7c1 : Code := { maxStack := 5, maxLocals := 2, code := jdk_42_method_3_code, exceptionTable := #[], attributes := #[] }
def k7m1 : Method := { name := "<init>", desc := "([C)V", sig := { parameters := [(.array .char)], returnType := none }, accessFlags := 1, code := some k7c1 }
def k7c2 : Code := { maxStack := 3, maxLocals := 2, code := jdk_42_method_53_code, exceptionTable := #[], attributes := #[] }
def k7m2 : Method := { name := "<init>", desc := "(Ljava/lang/StringBuilder;)V", sig := { parameters := [(.object "java/lang/StringBuilder")], returnType := none }, accessFlags := 1, code := some k7c2 }
def k7c3 : Code := { maxStack := 2, maxLocals := 1, code := jdk_42_method_54_code, exceptionTable := #[], attributes := #[] }
def k7m3 : Method := { name := "length", desc := "()I", sig := { parameters := [], returnType := some .int }, accessFlags := 1, code := some k7c3 }
def k7c4 : Code := { maxStack := 2, maxLocals := 3, code := jdk_42_method_66_code, exceptionTable := #[], attributes := #[] }
def k7m4 : Method := { name := "equals", desc := "(Ljava/lang/Object;)Z", sig := { parameters := [(.object "java/lang/Object")], returnType := some .boolean }, accessFlags := 1, code := some k7c4 }
def k7c5 : Code := { maxStack := 4, maxLocals := 1, code := jdk_42_method_139_code, exceptionTable := #[], attributes := #[] }
def k7m5 : Method := { name := "valueOf", desc := "(C)Ljava/lang/String;", sig := { parameters := [.char], returnType := some (.object "java/lang/String") }, accessFlags := 9, code := some k7c5 }
def k7c6 : Code := { maxStack := 5, maxLocals := 4, code := jdk_42_method_147_code, exceptionTable := #[], attributes := #[] }
def k7m6 : Method := { name := "getBytes", desc := "([BIB)V", sig := { parameters := [(.array .byte), .int, .byte], returnType := none }, accessFlags := 0, code := some k7c6 }
def k7c7 : Code := { maxStack := 4, maxLocals := 6, code := jdk_42_method_149_code, exceptionTable := #[], attributes := #[] }
def k7m7 : Method := { name := "<init>", desc := "([CIILjava/lang/Void;)V", sig := { parameters := [(.array .char), .int, .int, (.object "java/lang/Void")], returnType := none }, accessFlags := 2, code := some k7c7 }
def k7c8 : Code := { maxStack := 5, maxLocals := 5, code := jdk_42_method_150_code, exceptionTable := #[], attributes := #[] }
def k7m8 : Method := { name := "<init>", desc := "(Ljava/lang/AbstractStringBuilder;Ljava/lang/Void;)V", sig := { parameters := [(.object "java/lang/AbstractStringBuilder"), (.object "java/lang/Void")], returnType := none }, accessFlags := 0, code := some k7c8 }
def k7c9 : Code := { maxStack := 2, maxLocals := 3, code := jdk_42_method_151_code, exceptionTable := #[], attributes := #[] }
def k7m9 : Method := { name := "<init>", desc := "([BB)V", sig := { parameters := [(.array .byte), .byte], returnType := none }, accessFlags := 0, code := some k7c9 }
def k7c10 : Code := { maxStack := 1, maxLocals := 1, code := jdk_42_method_152_code, exceptionTable := #[], attributes := #[] }
def k7m10 : Method := { name := "coder", desc := "()B", sig := { parameters := [], returnType := some .byte }, accessFlags := 0, code := some k7c10 }
/-- java/lang/String -/
def k7 : Class := { plain "java/lang/String" (some 0) with
  accessFlags := 49
  interfaces := #[2, 3, 4, 5, 6]
  cf := some (fileOf pool7 10 #[.nestMembers #[1103]] #[{ accessFlags := 1, nameIndex := 5, descriptorIndex := 6, attributes := #[] }, { accessFlags := 1, nameIndex := 5, descriptorIndex := 1010, attributes := #[] }, { accessFlags := 1, nameIndex := 5, descriptorIndex := 1233, attributes := #[] }, { accessFlags := 1, nameIndex := 507, descriptorIndex := 334, attributes := #[] }, { accessFlags := 1, nameIndex := 543, descriptorIndex := 573, attributes := #[] }, { accessFlags := 9, nameIndex := 782, descriptorIndex := 783, attributes := #[] }, { accessFlags := 0, nameIndex := 532, descriptorIndex := 821, attributes := #[] }, { accessFlags := 2, nameIndex := 5, descriptorIndex := 29, attributes := #[] }, { accessFlags := 0, nameIndex := 5, descriptorIndex := 491, attributes := #[] }, { accessFlags := 0, nameIndex := 5, descriptorIndex := 211, attributes := #[] }, { accessFlags := 0, nameIndex := 17, descriptorIndex := 337, attributes := #[] }] 49 2 #[1106, 1108, 575, 1110, 1112] #[{ accessFlags := 18, nameIndex := 13, descriptorIndex := 14, attributes := #[] }, { accessFlags := 18, nameIndex := 17, descriptorIndex := 18, attributes := #[] }, { accessFlags := 2, nameIndex := 21, descriptorIndex := 22, attributes := #[] }, { accessFlags := 2, nameIndex := 25, descriptorIndex := 26, attributes := #[] }, { accessFlags := 26, nameIndex := 1116, descriptorIndex := 1117, attributes := #[] }, { accessFlags := 24, nameIndex := 40, descriptorIndex := 26, attributes := #[] }, { accessFlags := 26, nameIndex := 1101, descriptorIndex := 1102, attributes := #[] }, { accessFlags := 26, nameIndex := 1121, descriptorIndex := 1122, attributes := #[] }, { accessFlags := 25, nameIndex := 599, descriptorIndex := 600, attributes := #[] }, { accessFlags := 24, nameIndex := 1125, descriptorIndex := 18, attributes := #[] }, { accessFlags := 24, nameIndex := 1127, descriptorIndex := 18, attributes := #[] }])
  fields := #[{ name := "value", type := (.array .byte), accessFlags := 18, slot := 0, constantValue := 0 }, { name := "coder", type := .byte, accessFlags := 18, slot := 1, constantValue := 0 }, { name := "hash", type := .int, accessFlags := 2, slot := 2, constantValue := 0 }, { name := "hashIsZero", type := .boolean, accessFlags := 2, slot := 3, constantValue := 0 }, { name := "serialVersionUID", type := .long, accessFlags := 26, slot := 0, constantValue := 0 }, { name := "COMPACT_STRINGS", type := .boolean, accessFlags := 24, slot := 1, constantValue := 0 }, { name := "serialPersistentFields", type := (.array (.object "java/io/ObjectStreamField")), accessFlags := 26, slot := 2, constantValue := 0 }, { name := "REPL", type := .char, accessFlags := 26, slot := 3, constantValue := 0 }, { name := "CASE_INSENSITIVE_ORDER", type := (.object "java/util/Comparator"), accessFlags := 25, slot := 4, constantValue := 0 }, { name := "LATIN1", type := .byte, accessFlags := 24, slot := 5, constantValue := 0 }, { name := "UTF16", type := .byte, accessFlags := 24, slot := 6, constantValue := 0 }]
  methods := #[k7m0, k7m1, k7m2, k7m3, k7m4, k7m5, k7m6, k7m7, k7m8, k7m9, k7m10]
  instanceTypes := #[(.array .byte), .byte, .int, .boolean]
  staticTypes := #[.long, .boolean, (.array (.object "java/io/ObjectStreamField")), .char, (.object "java/util/Comparator"), .byte, .byte]
  resolved := Array.replicate 1451 none
  statics := some 0 }

def pool8 : Array CpInfo := pool [(6, .class_ 8), (1, u "java/lang/Object"), (0, u "<init>"), (0, u "()V"), (1, .class_ 14), (1, u "java/lang/StringUTF16"), (31, u "$assertionsDisabled"), (0, u "Z"), (13, u "HI_BYTE_SHIFT"), (0, u "I"), (2, u "LO_BYTE_SHIFT"), (49, .methodref 12 116), (0, .nameAndType 117 118), (0, u "compress"), (0, u "([CI[BII)I"), (3, u "([CII)[B"), (138, u "coderFromArrayLen"), (0, u "([BI)B"), (106, .class_ 371), (1, u "java/lang/StringUTF16$LinesSpliterator"), (58, u "MAX_LENGTH"), (196, .class_ 628), (0, u "java/lang/StringUTF16$CodePointsSpliterator"), (0, .class_ 630), (0, u "java/lang/StringUTF16$CharsSpliterator")] 4

def k8m0 : Method := { name := "<init>", desc := "()V", sig := { parameters := [], returnType := none }, accessFlags := 0, code := none }
def k8c1 : Code := { maxStack := 2, maxLocals := 2, code := jdk_52_method_15_code, exceptionTable := #[], attributes := #[] }
def k8m1 : Method := { name := "coderFromArrayLen", desc := "([BI)B", sig := { parameters := [(.array .byte), .int], returnType := some .byte }, accessFlags := 8, code := some k8c1 }
def k8c2 : Code := { maxStack := 5, maxLocals := 6, code := jdk_52_method_16_code, exceptionTable := #[], attributes := #[] }
def k8m2 : Method := { name := "compress", desc := "([CII)[B", sig := { parameters := [(.array .char), .int, .int], returnType := some (.array .byte) }, accessFlags := 9, code := some k8c2 }
def k8c3 : Code := { maxStack := 3, maxLocals := 7, code := jdk_52_method_21_code, exceptionTable := #[], attributes := #[] }
def k8m3 : Method := { name := "compress", desc := "([CI[BII)I", sig := { parameters := [(.array .char), .int, (.array .byte), .int, .int], returnType := some .int }, accessFlags := 9, code := some k8c3 }
/-- java/lang/StringUTF16 -/
def k8 : Class := { plain "java/lang/StringUTF16" (some 0) with
  accessFlags := 48
  interfaces := #[]
  cf := some (fileOf pool8 12 #[.nestMembers #[627, 629, 369]] #[{ accessFlags := 0, nameIndex := 9, descriptorIndex := 10, attributes := #[] }, { accessFlags := 8, nameIndex := 261, descriptorIndex := 262, attributes := #[] }, { accessFlags := 9, nameIndex := 117, descriptorIndex := 122, attributes := #[] }, { accessFlags := 9, nameIndex := 117, descriptorIndex := 118, attributes := #[] }] 48 6 #[] #[{ accessFlags := 26, nameIndex := 61, descriptorIndex := 62, attributes := #[] }, { accessFlags := 26, nameIndex := 65, descriptorIndex := 62, attributes := #[] }, { accessFlags := 24, nameIndex := 430, descriptorIndex := 62, attributes := #[] }, { accessFlags := 4120, nameIndex := 46, descriptorIndex := 47, attributes := #[] }])
  fields := #[{ name := "HI_BYTE_SHIFT", type := .int, accessFlags := 26, slot := 0, constantValue := 0 }, { name := "LO_BYTE_SHIFT", type := .int, accessFlags := 26, slot := 1, constantValue := 0 }, { name := "MAX_LENGTH", type := .int, accessFlags := 24, slot := 2, constantValue := 0 }, { name := "$assertionsDisabled", type := .boolean, accessFlags := 4120, slot := 3, constantValue := 0 }]
  methods := #[k8m0, k8m1, k8m2, k8m3]
  instanceTypes := #[]
  staticTypes := #[.int, .int, .int, .boolean]
  resolved := Array.replicate 635 none
  statics := none }

def pool9 : Array CpInfo := pool [(2, .class_ 4), (1, u "java/lang/Enum"), (0, u "name"), (0, u "Ljava/lang/String;"), (2, u "ordinal"), (0, u "I"), (1, .class_ 14), (1, u "java/lang/Object"), (4, u "hash"), (86, .class_ 108), (1, u "java/lang/Enum$EnumDesc"), (2, .class_ 112), (0, u "java/lang/constant/Constable"), (0, .class_ 114), (0, u "java/lang/Comparable"), (0, .class_ 116), (0, u "java/io/Serializable")] 87

/-- java/lang/Enum -/
def k9 : Class := { plain "java/lang/Enum" (some 0) with
  accessFlags := 1057
  interfaces := #[5, 3, 2]
  cf := some (fileOf pool9 2 #[.nestMembers #[106]] #[] 1057 12 #[111, 113, 115] #[{ accessFlags := 18, nameIndex := 5, descriptorIndex := 6, attributes := #[] }, { accessFlags := 18, nameIndex := 9, descriptorIndex := 10, attributes := #[] }, { accessFlags := 2, nameIndex := 19, descriptorIndex := 10, attributes := #[] }])
  fields := #[{ name := "name", type := (.object "java/lang/String"), accessFlags := 18, slot := 0, constantValue := 0 }, { name := "ordinal", type := .int, accessFlags := 18, slot := 1, constantValue := 0 }, { name := "hash", type := .int, accessFlags := 2, slot := 2, constantValue := 0 }]
  methods := #[]
  instanceTypes := #[(.object "java/lang/String"), .int, .int]
  staticTypes := #[]
  resolved := Array.replicate 204 none
  statics := none }

def pool10 : Array CpInfo := pool [(1, .class_ 2), (0, u "com/example/affixity/affixity/ocfl/OcflVersion"), (2, u "V1_0"), (0, u "Lcom/example/affixity/affixity/ocfl/OcflVersion;"), (2, u "V1_1"), (0, .fieldref 1 11), (0, .nameAndType 12 13), (0, u "$VALUES"), (0, u "[Lcom/example/affixity/affixity/ocfl/OcflVersion;"), (0, .methodref 15 16), (0, .class_ 13), (0, .nameAndType 17 18), (0, u "clone"), (0, u "()Ljava/lang/Object;"), (1, .class_ 22), (1, u "java/lang/Enum"), (4, u "<init>"), (1, .fieldref 1 30), (0, .nameAndType 31 32), (0, u "number"), (0, u "Ljava/lang/String;"), (0, .class_ 34), (0, u "java/lang/StringBuilder"), (0, .methodref 33 36), (0, .nameAndType 27 37), (0, u "()V"), (2, .methodref 33 41), (0, .nameAndType 42 43), (0, u "append"), (0, u "(Ljava/lang/String;)Ljava/lang/StringBuilder;"), (0, .methodref 33 45), (0, .nameAndType 46 47), (0, u "toString"), (0, u "()Ljava/lang/String;"), (2, .string 51), (0, u "https://ocfl.io/"), (0, .string 53), (0, u "/spec/#inventory"), (0, .methodref 1 55), (0, .nameAndType 56 57), (0, u "values"), (0, u "()[Lcom/example/affixity/affixity/ocfl/OcflVersion;"), (0, .methodref 1 59), (0, .nameAndType 60 47), (0, u "inventoryType"), (0, .methodref 62 63), (0, .class_ 64), (0, .nameAndType 65 66), (0, u "java/lang/String"), (0, u "equals"), (0, u "(Ljava/lang/Object;)Z"), (14, u "WRITTEN"), (2, u "(Ljava/lang/String;)Lcom/example/affixity/affixity/ocfl/OcflVersion;"), (5, u "ofInventoryType")] 5

def k10c0 : Code := { maxStack := 1, maxLocals := 0, code := prog_15_method_1_code, exceptionTable := #[], attributes := #[] }
def k10m0 : Method := { name := "values", desc := "()[Lcom/example/affixity/affixity/ocfl/OcflVersion;", sig := { parameters := [], returnType := some (.array (.object "com/example/affixity/affixity/ocfl/OcflVersion")) }, accessFlags := 9, code := some k10c0 }
def k10c1 : Code := { maxStack := 2, maxLocals := 1, code := prog_15_method_7_code, exceptionTable := #[], attributes := #[] }
def k10m1 : Method := { name := "inventoryType", desc := "()Ljava/lang/String;", sig := { parameters := [], returnType := some (.object "java/lang/String") }, accessFlags := 1, code := some k10c1 }
def k10c2 : Code := { maxStack := 2, maxLocals := 6, code := prog_15_method_8_code, exceptionTable := #[], attributes := #[] }
def k10m2 : Method := { name := "ofInventoryType", desc := "(Ljava/lang/String;)Lcom/example/affixity/affixity/ocfl/OcflVersion;", sig := { parameters := [(.object "java/lang/String")], returnType := some (.object "com/example/affixity/affixity/ocfl/OcflVersion") }, accessFlags := 9, code := some k10c2 }
/-- com/example/affixity/affixity/ocfl/OcflVersion -/
def k10 : Class := { plain "com/example/affixity/affixity/ocfl/OcflVersion" (some 9) with
  accessFlags := 16433
  interfaces := #[]
  cf := some (fileOf pool10 1 #[] #[{ accessFlags := 9, nameIndex := 56, descriptorIndex := 57, attributes := #[] }, { accessFlags := 1, nameIndex := 60, descriptorIndex := 47, attributes := #[] }, { accessFlags := 9, nameIndex := 90, descriptorIndex := 84, attributes := #[] }] 16433 20 #[] #[{ accessFlags := 16409, nameIndex := 5, descriptorIndex := 6, attributes := #[] }, { accessFlags := 16409, nameIndex := 9, descriptorIndex := 6, attributes := #[] }, { accessFlags := 25, nameIndex := 81, descriptorIndex := 6, attributes := #[] }, { accessFlags := 18, nameIndex := 31, descriptorIndex := 32, attributes := #[] }, { accessFlags := 4122, nameIndex := 12, descriptorIndex := 13, attributes := #[] }])
  fields := #[{ name := "V1_0", type := (.object "com/example/affixity/affixity/ocfl/OcflVersion"), accessFlags := 16409, slot := 0, constantValue := 0 }, { name := "V1_1", type := (.object "com/example/affixity/affixity/ocfl/OcflVersion"), accessFlags := 16409, slot := 1, constantValue := 0 }, { name := "WRITTEN", type := (.object "com/example/affixity/affixity/ocfl/OcflVersion"), accessFlags := 25, slot := 2, constantValue := 0 }, { name := "number", type := (.object "java/lang/String"), accessFlags := 18, slot := 3, constantValue := 0 }, { name := "$VALUES", type := (.array (.object "com/example/affixity/affixity/ocfl/OcflVersion")), accessFlags := 4122, slot := 3, constantValue := 0 }]
  methods := #[k10m0, k10m1, k10m2]
  instanceTypes := #[(.object "java/lang/String"), .int, .int, (.object "java/lang/String")]
  staticTypes := #[(.object "com/example/affixity/affixity/ocfl/OcflVersion"), (.object "com/example/affixity/affixity/ocfl/OcflVersion"), (.object "com/example/affixity/affixity/ocfl/OcflVersion"), (.array (.object "com/example/affixity/affixity/ocfl/OcflVersion"))]
  resolved := Array.replicate 96 none
  statics := some 1 }

def pool11 : Array CpInfo := pool [(1, .class_ 2), (0, u "java/lang/Cloneable"), (0, .class_ 4), (0, u "java/lang/Object")] 2

/-- java/lang/Cloneable -/
def k11 : Class := { plain "java/lang/Cloneable" (some 0) with
  accessFlags := 1537
  interfaces := #[]
  cf := some (fileOf pool11 1 #[] #[] 1537 3 #[] #[])
  fields := #[]
  methods := #[]
  instanceTypes := #[]
  staticTypes := #[]
  resolved := Array.replicate 7 none
  statics := none }

def pool12 : Array CpInfo := pool [(1, .class_ 2), (0, u "java/lang/Appendable"), (0, .class_ 4), (0, u "java/lang/Object")] 9

/-- java/lang/Appendable -/
def k12 : Class := { plain "java/lang/Appendable" (some 0) with
  accessFlags := 1537
  interfaces := #[]
  cf := some (fileOf pool12 1 #[] #[] 1537 3 #[] #[])
  fields := #[]
  methods := #[]
  instanceTypes := #[]
  staticTypes := #[]
  resolved := Array.replicate 14 none
  statics := none }

def pool13 : Array CpInfo := pool [(1, .class_ 2), (0, u "java/lang/String"), (0, .methodref 4 5), (0, .class_ 6), (0, .nameAndType 7 8), (0, u "java/lang/Object"), (0, u "<init>"), (0, u "()V"), (1, .class_ 12), (1, u "java/lang/AbstractStringBuilder"), (0, u "EMPTYVALUE"), (0, u "[B"), (0, .fieldref 10 16), (0, .nameAndType 17 14), (0, u "value"), (0, .fieldref 1 19), (0, .nameAndType 20 21), (0, u "COMPACT_STRINGS"), (0, u "Z"), (0, .fieldref 10 23), (0, .nameAndType 24 25), (0, u "coder"), (0, u "B"), (6, .methodref 1 33), (0, .nameAndType 34 35), (0, u "length"), (0, u "()I"), (3, .integer 2147483647), (0, .methodref 1 41), (0, .nameAndType 24 42), (0, u "()B"), (2, u "append"), (0, u "(Ljava/lang/String;)Ljava/lang/AbstractStringBuilder;"), (1, .class_ 49), (0, u "java/lang/CharSequence"), (19, u "(Ljava/lang/String;)V"), (5, u "maybeLatin1"), (3, .fieldref 10 80), (0, .nameAndType 81 82), (0, u "count"), (0, u "I"), (2, u "isLatin1"), (0, u "()Z"), (13, .methodref 10 101), (0, .nameAndType 102 103), (0, u "ensureCapacityInternal"), (0, u "(I)V"), (0, .methodref 10 105), (0, .nameAndType 106 107), (0, u "newCapacity"), (0, u "(I)I"), (0, .methodref 109 110), (0, .class_ 111), (0, .nameAndType 112 113), (0, u "java/util/Arrays"), (0, u "copyOf"), (0, u "([BI)[B"), (0, .methodref 115 116), (0, .class_ 117), (0, .nameAndType 118 119), (0, u "jdk/internal/util/ArraysSupport"), (0, u "newLength"), (0, u "(III)I"), (88, .methodref 10 209), (0, .nameAndType 210 211), (0, u "putStringAt"), (0, u "(ILjava/lang/String;)V"), (5, u "inflateIfNeededFor"), (2, .nameAndType 221 222), (0, u "getBytes"), (0, u "([BIB)V"), (174, .methodref 10 398), (0, .nameAndType 217 69), (0, .methodref 1 220), (3, u "()[B"), (40, .class_ 445), (0, u "java/lang/Appendable"), (106, u "getValue")] 56

def k13m0 : Method := { name := "<init>", desc := "()V", sig := { parameters := [], returnType := none }, accessFlags := 0, code := none }
def k13c1 : Code := { maxStack := 2, maxLocals := 2, code := jdk_68_method_2_code, exceptionTable := #[], attributes := #[] }
def k13m1 : Method := { name := "<init>", desc := "(I)V", sig := { parameters := [.int], returnType := none }, accessFlags := 0, code := some k13c1 }
def k13c2 : Code := { maxStack := 1, maxLocals := 1, code := jdk_68_method_6_code, exceptionTable := #[], attributes := #[] }
def k13m2 : Method := { name := "length", desc := "()I", sig := { parameters := [], returnType := some .int }, accessFlags := 1, code := some k13c2 }
def k13c3 : Code := { maxStack := 4, maxLocals := 3, code := jdk_68_method_9_code, exceptionTable := #[], attributes := #[] }
def k13m3 : Method := { name := "ensureCapacityInternal", desc := "(I)V", sig := { parameters := [.int], returnType := none }, accessFlags := 2, code := some k13c3 }
def k13c4 : Code := { maxStack := 5, maxLocals := 6, code := jdk_68_method_10_code, exceptionTable := #[], attributes := #[] }
def k13m4 : Method := { name := "newCapacity", desc := "(I)I", sig := { parameters := [.int], returnType := some .int }, accessFlags := 2, code := some k13c4 }
def k13c5 : Code := { maxStack := 3, maxLocals := 3, code := jdk_68_method_22_code, exceptionTable := #[], attributes := #[] }
def k13m5 : Method := { name := "append", desc := "(Ljava/lang/String;)Ljava/lang/AbstractStringBuilder;", sig := { parameters := [(.object "java/lang/String")], returnType := some (.object "java/lang/AbstractStringBuilder") }, accessFlags := 1, code := some k13c5 }
def k13c6 : Code := { maxStack := 1, maxLocals := 1, code := jdk_68_method_64_code, exceptionTable := #[], attributes := #[] }
def k13m6 : Method := { name := "getValue", desc := "()[B", sig := { parameters := [], returnType := some (.array .byte) }, accessFlags := 16, code := some k13c6 }
def k13c7 : Code := { maxStack := 1, maxLocals := 1, code := jdk_68_method_68_code, exceptionTable := #[], attributes := #[] }
def k13m7 : Method := { name := "isLatin1", desc := "()Z", sig := { parameters := [], returnType := some .boolean }, accessFlags := 16, code := some k13c7 }
def k13c8 : Code := { maxStack := 2, maxLocals := 2, code := jdk_68_method_71_code, exceptionTable := #[], attributes := #[] }
def k13m8 : Method := { name := "inflateIfNeededFor", desc := "(Ljava/lang/String;)V", sig := { parameters := [(.object "java/lang/String")], returnType := none }, accessFlags := 2, code := some k13c8 }
def k13c9 : Code := { maxStack := 4, maxLocals := 3, code := jdk_68_method_73_code, exceptionTable := #[], attributes := #[] }
def k13m9 : Method := { name := "putStringAt", desc := "(ILjava/lang/String;)V", sig := { parameters := [.int, (.object "java/lang/String")], returnType := none }, accessFlags := 2, code := some k13c9 }
/-- java/lang/AbstractStringBuilder -/
def k13 : Class := { plain "java/lang/AbstractStringBuilder" (some 0) with
  accessFlags := 1056
  interfaces := #[12, 4]
  cf := some (fileOf pool13 10 #[] #[{ accessFlags := 0, nameIndex := 7, descriptorIndex := 8, attributes := #[] }, { accessFlags := 0, nameIndex := 7, descriptorIndex := 103, attributes := #[] }, { accessFlags := 1, nameIndex := 34, descriptorIndex := 35, attributes := #[] }, { accessFlags := 2, nameIndex := 102, descriptorIndex := 103, attributes := #[] }, { accessFlags := 2, nameIndex := 106, descriptorIndex := 107, attributes := #[] }, { accessFlags := 1, nameIndex := 45, descriptorIndex := 46, attributes := #[] }, { accessFlags := 16, nameIndex := 552, descriptorIndex := 403, attributes := #[] }, { accessFlags := 16, nameIndex := 85, descriptorIndex := 86, attributes := #[] }, { accessFlags := 2, nameIndex := 217, descriptorIndex := 69, attributes := #[] }, { accessFlags := 2, nameIndex := 210, descriptorIndex := 211, attributes := #[] }] 1056 4 #[444, 48] #[{ accessFlags := 0, nameIndex := 17, descriptorIndex := 14, attributes := #[] }, { accessFlags := 0, nameIndex := 24, descriptorIndex := 25, attributes := #[] }, { accessFlags := 0, nameIndex := 75, descriptorIndex := 21, attributes := #[] }, { accessFlags := 0, nameIndex := 81, descriptorIndex := 82, attributes := #[] }, { accessFlags := 26, nameIndex := 13, descriptorIndex := 14, attributes := #[] }])
  fields := #[{ name := "value", type := (.array .byte), accessFlags := 0, slot := 0, constantValue := 0 }, { name := "coder", type := .byte, accessFlags := 0, slot := 1, constantValue := 0 }, { name := "maybeLatin1", type := .boolean, accessFlags := 0, slot := 2, constantValue := 0 }, { name := "count", type := .int, accessFlags := 0, slot := 3, constantValue := 0 }, { name := "EMPTYVALUE", type := (.array .byte), accessFlags := 26, slot := 0, constantValue := 0 }]
  methods := #[k13m0, k13m1, k13m2, k13m3, k13m4, k13m5, k13m6, k13m7, k13m8, k13m9]
  instanceTypes := #[(.array .byte), .byte, .boolean, .int]
  staticTypes := #[(.array .byte)]
  resolved := Array.replicate 609 none
  statics := none }

def pool14 : Array CpInfo := pool [(1, .methodref 2 3), (0, .class_ 4), (0, .nameAndType 5 6), (0, u "java/lang/AbstractStringBuilder"), (0, u "<init>"), (0, u "(I)V"), (11, .class_ 20), (1, u "java/lang/String"), (3, .class_ 26), (1, u "java/lang/StringBuilder"), (0, u "append"), (0, u "(Ljava/lang/String;)Ljava/lang/StringBuilder;"), (0, .methodref 2 30), (0, .nameAndType 27 31), (0, u "(Ljava/lang/String;)Ljava/lang/AbstractStringBuilder;"), (105, .methodref 18 138), (0, .nameAndType 5 139), (0, u "(Ljava/lang/StringBuilder;)V"), (5, u "()V"), (10, u "()I"), (186, .methodref 2 344), (0, .nameAndType 345 156), (0, u "length"), (3, .class_ 350), (0, u "java/lang/Appendable"), (0, .class_ 352), (0, u "java/io/Serializable"), (0, .class_ 354), (0, u "java/lang/Comparable"), (0, .class_ 356), (0, u "java/lang/CharSequence"), (0, u "serialVersionUID"), (0, u "J"), (40, u "toString"), (0, u "()Ljava/lang/String;")] 21

def k14c0 : Code := { maxStack := 2, maxLocals := 1, code := jdk_67_method_1_code, exceptionTable := #[], attributes := #[] }
def k14m0 : Method := { name := "<init>", desc := "()V", sig := { parameters := [], returnType := none }, accessFlags := 1, code := some k14c0 }
def k14c1 : Code := { maxStack := 2, maxLocals := 2, code := jdk_67_method_7_code, exceptionTable := #[], attributes := #[] }
def k14m1 : Method := { name := "append", desc := "(Ljava/lang/String;)Ljava/lang/StringBuilder;", sig := { parameters := [(.object "java/lang/String")], returnType := some (.object "java/lang/StringBuilder") }, accessFlags := 1, code := some k14c1 }
def k14c2 : Code := { maxStack := 3, maxLocals := 1, code := jdk_67_method_42_code, exceptionTable := #[], attributes := #[] }
def k14m2 : Method := { name := "toString", desc := "()Ljava/lang/String;", sig := { parameters := [], returnType := some (.object "java/lang/String") }, accessFlags := 1, code := some k14c2 }
def k14c3 : Code := { maxStack := 1, maxLocals := 1, code := jdk_67_method_93_code, exceptionTable := #[], attributes := #[] }
def k14m3 : Method := { name := "length", desc := "()I", sig := { parameters := [], returnType := some .int }, accessFlags := 4161, code := some k14c3 }
/-- java/lang/StringBuilder -/
def k14 : Class := { plain "java/lang/StringBuilder" (some 13) with
  accessFlags := 49
  interfaces := #[12, 2, 3, 4]
  cf := some (fileOf pool14 24 #[] #[{ accessFlags := 1, nameIndex := 5, descriptorIndex := 145, attributes := #[] }, { accessFlags := 1, nameIndex := 27, descriptorIndex := 28, attributes := #[] }, { accessFlags := 1, nameIndex := 399, descriptorIndex := 400, attributes := #[] }, { accessFlags := 4161, nameIndex := 345, descriptorIndex := 156, attributes := #[] }] 49 2 #[349, 351, 353, 355] #[{ accessFlags := 24, nameIndex := 357, descriptorIndex := 358, attributes := #[] }])
  fields := #[{ name := "serialVersionUID", type := .long, accessFlags := 24, slot := 0, constantValue := 0 }]
  methods := #[k14m0, k14m1, k14m2, k14m3]
  instanceTypes := #[(.array .byte), .byte, .boolean, .int]
  staticTypes := #[.long]
  resolved := Array.replicate 422 none
  statics := none }

def pool15 : Array CpInfo := pool [(2, .class_ 4), (1, u "java/lang/Object"), (0, u "<init>"), (0, u "()V"), (1, .class_ 10), (1, u "java/lang/System"), (0, u "allowSecurityManager"), (0, u "I"), (16, u "cons"), (0, u "Ljava/io/Console;"), (77, .class_ 110), (1, u "java/lang/System$CallersHolder"), (43, u "initialErrStream"), (0, u "Ljava/io/PrintStream;"), (19, u "security"), (0, u "Ljava/lang/SecurityManager;"), (31, .class_ 209), (0, u "java/lang/System$1"), (7, u "props"), (0, u "Ljava/util/Properties;"), (2, u "lineSeparator"), (0, u "Ljava/lang/String;"), (96, .class_ 321), (1, u "java/lang/System$LoggerFinder"), (5, .class_ 328), (0, u "java/lang/System$Logger"), (67, u "err"), (2, u "out"), (91, u "notSupportedJnuEncoding"), (15, u "in"), (17, u "initialIn"), (0, u "Ljava/io/InputStream;"), (35, u "bootLayer"), (0, u "Ljava/lang/ModuleLayer;"), (99, .class_ 664), (0, u "java/lang/System$2"), (9, u "NEVER"), (2, u "MAYBE"), (49, u "arraycopy"), (0, u "(Ljava/lang/Object;ILjava/lang/Object;II)V"), (72, .class_ 802), (0, u "java/lang/System$Logger$Level")] 31

def k15m0 : Method := { name := "<init>", desc := "()V", sig := { parameters := [], returnType := none }, accessFlags := 2, code := none }
def k15m1 : Method := { name := "arraycopy", desc := "(Ljava/lang/Object;ILjava/lang/Object;II)V", sig := { parameters := [(.object "java/lang/Object"), .int, (.object "java/lang/Object"), .int, .int], returnType := none }, accessFlags := 265, code := none }
/-- java/lang/System -/
def k15 : Class := { plain "java/lang/System" (some 0) with
  accessFlags := 49
  interfaces := #[]
  cf := some (fileOf pool15 8 #[.nestMembers #[319, 327, 801, 108, 663, 208]] #[{ accessFlags := 2, nameIndex := 5, descriptorIndex := 6, attributes := #[] }, { accessFlags := 265, nameIndex := 727, descriptorIndex := 728, attributes := #[] }] 49 2 #[] #[{ accessFlags := 25, nameIndex := 507, descriptorIndex := 526, attributes := #[] }, { accessFlags := 25, nameIndex := 399, descriptorIndex := 155, attributes := #[] }, { accessFlags := 25, nameIndex := 396, descriptorIndex := 155, attributes := #[] }, { accessFlags := 10, nameIndex := 525, descriptorIndex := 526, attributes := #[] }, { accessFlags := 26, nameIndex := 674, descriptorIndex := 12, attributes := #[] }, { accessFlags := 26, nameIndex := 677, descriptorIndex := 12, attributes := #[] }, { accessFlags := 10, nameIndex := 11, descriptorIndex := 12, attributes := #[] }, { accessFlags := 74, nameIndex := 175, descriptorIndex := 176, attributes := #[] }, { accessFlags := 10, nameIndex := 491, descriptorIndex := 222, attributes := #[] }, { accessFlags := 74, nameIndex := 29, descriptorIndex := 30, attributes := #[] }, { accessFlags := 74, nameIndex := 154, descriptorIndex := 155, attributes := #[] }, { accessFlags := 10, nameIndex := 217, descriptorIndex := 218, attributes := #[] }, { accessFlags := 10, nameIndex := 221, descriptorIndex := 222, attributes := #[] }, { accessFlags := 8, nameIndex := 562, descriptorIndex := 563, attributes := #[] }])
  fields := #[{ name := "in", type := (.object "java/io/InputStream"), accessFlags := 25, slot := 0, constantValue := 0 }, { name := "out", type := (.object "java/io/PrintStream"), accessFlags := 25, slot := 1, constantValue := 0 }, { name := "err", type := (.object "java/io/PrintStream"), accessFlags := 25, slot := 2, constantValue := 0 }, { name := "initialIn", type := (.object "java/io/InputStream"), accessFlags := 10, slot := 3, constantValue := 0 }, { name := "NEVER", type := .int, accessFlags := 26, slot := 4, constantValue := 0 }, { name := "MAYBE", type := .int, accessFlags := 26, slot := 5, constantValue := 0 }, { name := "allowSecurityManager", type := .int, accessFlags := 10, slot := 6, constantValue := 0 }, { name := "security", type := (.object "java/lang/SecurityManager"), accessFlags := 74, slot := 7, constantValue := 0 }, { name := "notSupportedJnuEncoding", type := (.object "java/lang/String"), accessFlags := 10, slot := 8, constantValue := 0 }, { name := "cons", type := (.object "java/io/Console"), accessFlags := 74, slot := 9, constantValue := 0 }, { name := "initialErrStream", type := (.object "java/io/PrintStream"), accessFlags := 74, slot := 10, constantValue := 0 }, { name := "props", type := (.object "java/util/Properties"), accessFlags := 10, slot := 11, constantValue := 0 }, { name := "lineSeparator", type := (.object "java/lang/String"), accessFlags := 10, slot := 12, constantValue := 0 }, { name := "bootLayer", type := (.object "java/lang/ModuleLayer"), accessFlags := 8, slot := 13, constantValue := 0 }]
  methods := #[k15m0, k15m1]
  instanceTypes := #[]
  staticTypes := #[(.object "java/io/InputStream"), (.object "java/io/PrintStream"), (.object "java/io/PrintStream"), (.object "java/io/InputStream"), .int, .int, .int, (.object "java/lang/SecurityManager"), (.object "java/lang/String"), (.object "java/io/Console"), (.object "java/io/PrintStream"), (.object "java/util/Properties"), (.object "java/lang/String"), (.object "java/lang/ModuleLayer")]
  resolved := Array.replicate 834 none
  statics := none }

def pool16 : Array CpInfo := pool [(9, u "<init>"), (6, .class_ 18), (1, u "java/lang/Object"), (0, u "()V"), (1, .class_ 23), (1, u "jdk/internal/util/ArraysSupport"), (0, u "LOG2_ARRAY_LONG_INDEX_SCALE"), (0, u "I"), (2, u "U"), (0, u "Ljdk/internal/misc/Unsafe;"), (8, u "BIG_ENDIAN"), (0, u "Z"), (8, u "LOG2_BYTE_BIT_SIZE"), (4, u "LOG2_ARRAY_INT_INDEX_SCALE"), (54, u "JLA"), (0, u "Ljdk/internal/access/JavaLangAccess;"), (11, u "LOG2_ARRAY_BOOLEAN_INDEX_SCALE"), (9, u "LOG2_ARRAY_BYTE_INDEX_SCALE"), (5, u "LOG2_ARRAY_CHAR_INDEX_SCALE"), (5, u "LOG2_ARRAY_SHORT_INDEX_SCALE"), (18, u "LOG2_ARRAY_FLOAT_INDEX_SCALE"), (24, u "LOG2_ARRAY_DOUBLE_INDEX_SCALE"), (6, .methodref 195 196), (0, .class_ 197), (0, .nameAndType 198 199), (0, u "java/lang/Math"), (0, u "max"), (0, u "(II)I"), (0, .integer 2147483639), (76, u "T_BOOLEAN"), (2, u "T_CHAR"), (1, u "T_FLOAT"), (1, u "T_DOUBLE"), (1, u "T_BYTE"), (1, u "T_SHORT"), (1, u "T_INT"), (1, u "T_LONG"), (1, u "SOFT_MAX_ARRAY_LENGTH"), (56, u "newLength"), (0, u "(III)I")] 25

def k16m0 : Method := { name := "<init>", desc := "()V", sig := { parameters := [], returnType := none }, accessFlags := 2, code := none }
def k16c1 : Code := { maxStack := 3, maxLocals := 4, code := jdk_48_method_27_code, exceptionTable := #[], attributes := #[] }
def k16m1 : Method := { name := "newLength", desc := "(III)I", sig := { parameters := [.int, .int, .int], returnType := some .int }, accessFlags := 9, code := some k16c1 }
/-- jdk/internal/util/ArraysSupport -/
def k16 : Class := { plain "jdk/internal/util/ArraysSupport" (some 0) with
  accessFlags := 33
  interfaces := #[]
  cf := some (fileOf pool16 21 #[] #[{ accessFlags := 2, nameIndex := 9, descriptorIndex := 19, attributes := #[] }, { accessFlags := 9, nameIndex := 351, descriptorIndex := 352, attributes := #[] }] 33 16 #[] #[{ accessFlags := 24, nameIndex := 28, descriptorIndex := 29, attributes := #[] }, { accessFlags := 26, nameIndex := 38, descriptorIndex := 39, attributes := #[] }, { accessFlags := 25, nameIndex := 121, descriptorIndex := 25, attributes := #[] }, { accessFlags := 25, nameIndex := 131, descriptorIndex := 25, attributes := #[] }, { accessFlags := 25, nameIndex := 137, descriptorIndex := 25, attributes := #[] }, { accessFlags := 25, nameIndex := 143, descriptorIndex := 25, attributes := #[] }, { accessFlags := 25, nameIndex := 53, descriptorIndex := 25, attributes := #[] }, { accessFlags := 25, nameIndex := 24, descriptorIndex := 25, attributes := #[] }, { accessFlags := 25, nameIndex := 162, descriptorIndex := 25, attributes := #[] }, { accessFlags := 25, nameIndex := 187, descriptorIndex := 25, attributes := #[] }, { accessFlags := 26, nameIndex := 48, descriptorIndex := 25, attributes := #[] }, { accessFlags := 25, nameIndex := 277, descriptorIndex := 25, attributes := #[] }, { accessFlags := 25, nameIndex := 280, descriptorIndex := 25, attributes := #[] }, { accessFlags := 25, nameIndex := 282, descriptorIndex := 25, attributes := #[] }, { accessFlags := 25, nameIndex := 284, descriptorIndex := 25, attributes := #[] }, { accessFlags := 25, nameIndex := 286, descriptorIndex := 25, attributes := #[] }, { accessFlags := 25, nameIndex := 288, descriptorIndex := 25, attributes := #[] }, { accessFlags := 25, nameIndex := 290, descriptorIndex := 25, attributes := #[] }, { accessFlags := 25, nameIndex := 292, descriptorIndex := 25, attributes := #[] }, { accessFlags := 26, nameIndex := 108, descriptorIndex := 109, attributes := #[] }, { accessFlags := 25, nameIndex := 294, descriptorIndex := 25, attributes := #[] }])
  fields := #[{ name := "U", type := (.object "jdk/internal/misc/Unsafe"), accessFlags := 24, slot := 0, constantValue := 0 }, { name := "BIG_ENDIAN", type := .boolean, accessFlags := 26, slot := 1, constantValue := 0 }, { name := "LOG2_ARRAY_BOOLEAN_INDEX_SCALE", type := .int, accessFlags := 25, slot := 2, constantValue := 0 }, { name := "LOG2_ARRAY_BYTE_INDEX_SCALE", type := .int, accessFlags := 25, slot := 3, constantValue := 0 }, { name := "LOG2_ARRAY_CHAR_INDEX_SCALE", type := .int, accessFlags := 25, slot := 4, constantValue := 0 }, { name := "LOG2_ARRAY_SHORT_INDEX_SCALE", type := .int, accessFlags := 25, slot := 5, constantValue := 0 }, { name := "LOG2_ARRAY_INT_INDEX_SCALE", type := .int, accessFlags := 25, slot := 6, constantValue := 0 }, { name := "LOG2_ARRAY_LONG_INDEX_SCALE", type := .int, accessFlags := 25, slot := 7, constantValue := 0 }, { name := "LOG2_ARRAY_FLOAT_INDEX_SCALE", type := .int, accessFlags := 25, slot := 8, constantValue := 0 }, { name := "LOG2_ARRAY_DOUBLE_INDEX_SCALE", type := .int, accessFlags := 25, slot := 9, constantValue := 0 }, { name := "LOG2_BYTE_BIT_SIZE", type := .int, accessFlags := 26, slot := 10, constantValue := 0 }, { name := "T_BOOLEAN", type := .int, accessFlags := 25, slot := 11, constantValue := 0 }, { name := "T_CHAR", type := .int, accessFlags := 25, slot := 12, constantValue := 0 }, { name := "T_FLOAT", type := .int, accessFlags := 25, slot := 13, constantValue := 0 }, { name := "T_DOUBLE", type := .int, accessFlags := 25, slot := 14, constantValue := 0 }, { name := "T_BYTE", type := .int, accessFlags := 25, slot := 15, constantValue := 0 }, { name := "T_SHORT", type := .int, accessFlags := 25, slot := 16, constantValue := 0 }, { name := "T_INT", type := .int, accessFlags := 25, slot := 17, constantValue := 0 }, { name := "T_LONG", type := .int, accessFlags := 25, slot := 18, constantValue := 0 }, { name := "JLA", type := (.object "jdk/internal/access/JavaLangAccess"), accessFlags := 26, slot := 19, constantValue := 0 }, { name := "SOFT_MAX_ARRAY_LENGTH", type := .int, accessFlags := 25, slot := 20, constantValue := 0 }]
  methods := #[k16m0, k16m1]
  instanceTypes := #[]
  staticTypes := #[(.object "jdk/internal/misc/Unsafe"), .boolean, .int, .int, .int, .int, .int, .int, .int, .int, .int, .int, .int, .int, .int, .int, .int, .int, .int, (.object "jdk/internal/access/JavaLangAccess"), .int]
  resolved := Array.replicate 378 none
  statics := none }

def pool17 : Array CpInfo := pool [(1, .class_ 2), (0, u "java/lang/Math"), (1, .class_ 6), (1, u "java/lang/Object"), (0, u "<init>"), (0, u "()V"), (89, .class_ 100), (1, u "java/lang/Math$RandomNumberGeneratorHolder"), (71, u "negativeZeroFloatBits"), (0, u "J"), (2, u "negativeZeroDoubleBits"), (21, u "max"), (2, u "min"), (43, u "$assertionsDisabled"), (0, u "Z"), (88, u "(II)I"), (2, u "twoToTheDoubleScaleDown"), (0, u "D"), (4, u "twoToTheDoubleScaleUp"), (9, u "E"), (3, u "PI"), (2, u "TAU"), (2, u "DEGREES_TO_RADIANS"), (0, u "RADIANS_TO_DEGREES")] 94

def k17m0 : Method := { name := "<init>", desc := "()V", sig := { parameters := [], returnType := none }, accessFlags := 2, code := none }
def k17c1 : Code := { maxStack := 2, maxLocals := 2, code := jdk_29_method_65_code, exceptionTable := #[], attributes := #[] }
def k17m1 : Method := { name := "max", desc := "(II)I", sig := { parameters := [.int, .int], returnType := some .int }, accessFlags := 9, code := some k17c1 }
def k17c2 : Code := { maxStack := 2, maxLocals := 2, code := jdk_29_method_69_code, exceptionTable := #[], attributes := #[] }
def k17m2 : Method := { name := "min", desc := "(II)I", sig := { parameters := [.int, .int], returnType := some .int }, accessFlags := 9, code := some k17c2 }
/-- java/lang/Math -/
def k17 : Class := { plain "java/lang/Math" (some 0) with
  accessFlags := 49
  interfaces := #[]
  cf := some (fileOf pool17 1 #[.nestMembers #[98]] #[{ accessFlags := 2, nameIndex := 7, descriptorIndex := 8, attributes := #[] }, { accessFlags := 9, nameIndex := 198, descriptorIndex := 335, attributes := #[] }, { accessFlags := 9, nameIndex := 201, descriptorIndex := 335, attributes := #[] }] 49 4 #[] #[{ accessFlags := 25, nameIndex := 354, descriptorIndex := 339, attributes := #[] }, { accessFlags := 25, nameIndex := 358, descriptorIndex := 339, attributes := #[] }, { accessFlags := 25, nameIndex := 361, descriptorIndex := 339, attributes := #[] }, { accessFlags := 26, nameIndex := 364, descriptorIndex := 339, attributes := #[] }, { accessFlags := 26, nameIndex := 365, descriptorIndex := 339, attributes := #[] }, { accessFlags := 26, nameIndex := 172, descriptorIndex := 173, attributes := #[] }, { accessFlags := 26, nameIndex := 176, descriptorIndex := 173, attributes := #[] }, { accessFlags := 8, nameIndex := 344, descriptorIndex := 339, attributes := #[] }, { accessFlags := 8, nameIndex := 338, descriptorIndex := 339, attributes := #[] }, { accessFlags := 4120, nameIndex := 245, descriptorIndex := 246, attributes := #[] }])
  fields := #[{ name := "E", type := .double, accessFlags := 25, slot := 0, constantValue := 0 }, { name := "PI", type := .double, accessFlags := 25, slot := 1, constantValue := 0 }, { name := "TAU", type := .double, accessFlags := 25, slot := 2, constantValue := 0 }, { name := "DEGREES_TO_RADIANS", type := .double, accessFlags := 26, slot := 3, constantValue := 0 }, { name := "RADIANS_TO_DEGREES", type := .double, accessFlags := 26, slot := 4, constantValue := 0 }, { name := "negativeZeroFloatBits", type := .long, accessFlags := 26, slot := 5, constantValue := 0 }, { name := "negativeZeroDoubleBits", type := .long, accessFlags := 26, slot := 6, constantValue := 0 }, { name := "twoToTheDoubleScaleUp", type := .double, accessFlags := 8, slot := 7, constantValue := 0 }, { name := "twoToTheDoubleScaleDown", type := .double, accessFlags := 8, slot := 8, constantValue := 0 }, { name := "$assertionsDisabled", type := .boolean, accessFlags := 4120, slot := 9, constantValue := 0 }]
  methods := #[k17m0, k17m1, k17m2]
  instanceTypes := #[]
  staticTypes := #[.double, .double, .double, .double, .double, .long, .long, .double, .double, .boolean]
  resolved := Array.replicate 460 none
  statics := none }

def pool18 : Array CpInfo := pool [(2, .class_ 4), (1, u "java/lang/Object"), (0, u "<init>"), (0, u "()V"), (7, .class_ 16), (1, u "java/util/Arrays"), (57, .class_ 76), (1, u "java/util/Arrays$NaturalOrder"), (36, .class_ 115), (1, u "java/util/Arrays$LegacyMergeSort"), (1, u "Z"), (21, u "copyOfRange"), (10, .methodref 151 152), (0, .class_ 153), (0, .nameAndType 154 155), (0, u "java/lang/System"), (0, u "arraycopy"), (0, u "(Ljava/lang/Object;ILjava/lang/Object;II)V"), (146, u "copyOf"), (1, .methodref 305 306), (0, .class_ 307), (0, .nameAndType 308 309), (0, u "java/lang/Math"), (0, u "min"), (0, u "(II)I"), (29, .methodref 14 340), (0, .nameAndType 341 342), (0, u "copyOfRangeByte"), (0, u "([BII)[B"), (0, .methodref 14 344), (0, .nameAndType 345 346), (0, u "checkLength"), (0, u "(II)V"), (28, .class_ 376), (0, u "java/util/Arrays$ArrayList"), (68, u "$assertionsDisabled"), (269, u "MIN_ARRAY_SORT_GRAN"), (0, u "I"), (2, u "INSERTIONSORT_THRESHOLD"), (149, u "([BI)[B"), (105, .class_ 976), (0, u "java/util/Arrays$ArrayItr")] 52

def k18m0 : Method := { name := "<init>", desc := "()V", sig := { parameters := [], returnType := none }, accessFlags := 2, code := none }
def k18c1 : Code := { maxStack := 6, maxLocals := 3, code := jdk_65_method_121_code, exceptionTable := #[], attributes := #[] }
def k18m1 : Method := { name := "copyOf", desc := "([BI)[B", sig := { parameters := [(.array .byte), .int], returnType := some (.array .byte) }, accessFlags := 9, code := some k18c1 }
def k18c2 : Code := { maxStack := 4, maxLocals := 2, code := jdk_65_method_131_code, exceptionTable := #[], attributes := #[] }
def k18m2 : Method := { name := "checkLength", desc := "(II)V", sig := { parameters := [.int, .int], returnType := none }, accessFlags := 10, code := some k18c2 }
def k18c3 : Code := { maxStack := 3, maxLocals := 3, code := jdk_65_method_132_code, exceptionTable := #[], attributes := #[] }
def k18m3 : Method := { name := "copyOfRange", desc := "([BII)[B", sig := { parameters := [(.array .byte), .int, .int], returnType := some (.array .byte) }, accessFlags := 9, code := some k18c3 }
def k18c4 : Code := { maxStack := 6, maxLocals := 5, code := jdk_65_method_133_code, exceptionTable := #[], attributes := #[] }
def k18m4 : Method := { name := "copyOfRangeByte", desc := "([BII)[B", sig := { parameters := [(.array .byte), .int, .int], returnType := some (.array .byte) }, accessFlags := 10, code := some k18c4 }
/-- java/util/Arrays -/
def k18 : Class := { plain "java/util/Arrays" (some 0) with
  accessFlags := 49
  interfaces := #[]
  cf := some (fileOf pool18 14 #[.nestMembers #[975, 375, 113, 74]] #[{ accessFlags := 2, nameIndex := 5, descriptorIndex := 6, attributes := #[] }, { accessFlags := 9, nameIndex := 302, descriptorIndex := 869, attributes := #[] }, { accessFlags := 10, nameIndex := 345, descriptorIndex := 346, attributes := #[] }, { accessFlags := 9, nameIndex := 139, descriptorIndex := 342, attributes := #[] }, { accessFlags := 10, nameIndex := 341, descriptorIndex := 342, attributes := #[] }] 49 2 #[] #[{ accessFlags := 26, nameIndex := 715, descriptorIndex := 716, attributes := #[] }, { accessFlags := 26, nameIndex := 719, descriptorIndex := 716, attributes := #[] }, { accessFlags := 4120, nameIndex := 445, descriptorIndex := 117, attributes := #[] }])
  fields := #[{ name := "MIN_ARRAY_SORT_GRAN", type := .int, accessFlags := 26, slot := 0, constantValue := 0 }, { name := "INSERTIONSORT_THRESHOLD", type := .int, accessFlags := 26, slot := 1, constantValue := 0 }, { name := "$assertionsDisabled", type := .boolean, accessFlags := 4120, slot := 2, constantValue := 0 }]
  methods := #[k18m0, k18m1, k18m2, k18m3, k18m4]
  instanceTypes := #[]
  staticTypes := #[.int, .int, .boolean]
  resolved := Array.replicate 1029 none
  statics := none }

def pool19 : Array CpInfo := pool [(4, .class_ 6), (1, u "java/lang/Object"), (0, u "<init>"), (0, u "()V"), (5, .class_ 16), (1, u "java/lang/StringLatin1"), (73, u "canEncode"), (14, u "(C)Z"), (15, u "$assertionsDisabled"), (0, u "Z"), (98, .class_ 223), (1, u "java/lang/StringLatin1$LinesSpliterator"), (57, u "equals"), (0, u "([B[B)Z"), (97, u "toBytes"), (1, u "(C)[B"), (7, .class_ 391), (0, u "java/lang/StringLatin1$CharsSpliterator")] 3

def k19m0 : Method := { name := "<init>", desc := "()V", sig := { parameters := [], returnType := none }, accessFlags := 0, code := none }
def k19c1 : Code := { maxStack := 2, maxLocals := 1, code := jdk_43_method_3_code, exceptionTable := #[], attributes := #[] }
def k19m1 : Method := { name := "canEncode", desc := "(C)Z", sig := { parameters := [.char], returnType := some .boolean }, accessFlags := 9, code := some k19c1 }
def k19c2 : Code := { maxStack := 3, maxLocals := 3, code := jdk_43_method_13_code, exceptionTable := #[], attributes := #[] }
def k19m2 : Method := { name := "equals", desc := "([B[B)Z", sig := { parameters := [(.array .byte), (.array .byte)], returnType := some .boolean }, accessFlags := 9, code := some k19c2 }
def k19c3 : Code := { maxStack := 4, maxLocals := 1, code := jdk_43_method_46_code, exceptionTable := #[], attributes := #[] }
def k19m3 : Method := { name := "toBytes", desc := "(C)[B", sig := { parameters := [.char], returnType := some (.array .byte) }, accessFlags := 9, code := some k19c3 }
/-- java/lang/StringLatin1 -/
def k19 : Class := { plain "java/lang/StringLatin1" (some 0) with
  accessFlags := 48
  interfaces := #[]
  cf := some (fileOf pool19 14 #[.nestMembers #[390, 221]] #[{ accessFlags := 0, nameIndex := 7, descriptorIndex := 8, attributes := #[] }, { accessFlags := 9, nameIndex := 90, descriptorIndex := 105, attributes := #[] }, { accessFlags := 9, nameIndex := 281, descriptorIndex := 282, attributes := #[] }, { accessFlags := 9, nameIndex := 380, descriptorIndex := 382, attributes := #[] }] 48 4 #[] #[{ accessFlags := 4120, nameIndex := 121, descriptorIndex := 122, attributes := #[] }])
  fields := #[{ name := "$assertionsDisabled", type := .boolean, accessFlags := 4120, slot := 0, constantValue := 0 }]
  methods := #[k19m0, k19m1, k19m2, k19m3]
  instanceTypes := #[]
  staticTypes := #[.boolean]
  resolved := Array.replicate 395 none
  statics := none }

def pool20 : Array CpInfo := pool [(2, .class_ 4), (1, u "java/lang/Object"), (0, u "<init>"), (0, u "()V"), (17, .class_ 26), (1, u "jdk/internal/util/Preconditions"), (28, .class_ 56), (0, u "jdk/internal/util/Preconditions$4"), (57, .class_ 115), (0, u "jdk/internal/util/Preconditions$1"), (7, u "SIOOBE_FORMATTER"), (0, u "Ljava/util/function/BiFunction;"), (0, .class_ 126), (0, u "jdk/internal/util/Preconditions$2"), (3, u "AIOOBE_FORMATTER"), (0, .class_ 132), (0, u "jdk/internal/util/Preconditions$3"), (3, u "IOOBE_FORMATTER")] 57

def k20m0 : Method := { name := "<init>", desc := "()V", sig := { parameters := [], returnType := none }, accessFlags := 1, code := none }
/-- jdk/internal/util/Preconditions -/
def k20 : Class := { plain "jdk/internal/util/Preconditions" (some 0) with
  accessFlags := 33
  interfaces := #[]
  cf := some (fileOf pool20 24 #[.nestMembers #[55, 131, 125, 114]] #[{ accessFlags := 1, nameIndex := 5, descriptorIndex := 6, attributes := #[] }] 33 2 #[] #[{ accessFlags := 25, nameIndex := 123, descriptorIndex := 124, attributes := #[] }, { accessFlags := 25, nameIndex := 130, descriptorIndex := 124, attributes := #[] }, { accessFlags := 25, nameIndex := 136, descriptorIndex := 124, attributes := #[] }])
  fields := #[{ name := "SIOOBE_FORMATTER", type := (.object "java/util/function/BiFunction"), accessFlags := 25, slot := 0, constantValue := 0 }, { name := "AIOOBE_FORMATTER", type := (.object "java/util/function/BiFunction"), accessFlags := 25, slot := 1, constantValue := 0 }, { name := "IOOBE_FORMATTER", type := (.object "java/util/function/BiFunction"), accessFlags := 25, slot := 2, constantValue := 0 }]
  methods := #[k20m0]
  instanceTypes := #[]
  staticTypes := #[(.object "java/util/function/BiFunction"), (.object "java/util/function/BiFunction"), (.object "java/util/function/BiFunction")]
  resolved := Array.replicate 194 none
  statics := some 2 }

/-- the primitive byte -/
def k21 : Class := { plain "byte" none with kind := .primitive 'B', accessFlags := 0x411 }
/-- [B -/
def k22 : Class := { plain "[B" (some 0) with kind := .array 21 .byte, interfaces := #[11, 2], accessFlags := 1041 }

/-- the primitive char -/
def k23 : Class := { plain "char" none with kind := .primitive 'C', accessFlags := 0x411 }
/-- [C -/
def k24 : Class := { plain "[C" (some 0) with kind := .array 23 .char, interfaces := #[11, 2], accessFlags := 1041 }

/-- the primitive int -/
def k25 : Class := { plain "int" none with kind := .primitive 'I', accessFlags := 0x411 }
/-- [I -/
def k26 : Class := { plain "[I" (some 0) with kind := .array 25 .int, interfaces := #[11, 2], accessFlags := 1041 }

/-- [Lcom/example/affixity/affixity/ocfl/OcflVersion; -/
def k27 : Class := { plain "[Lcom/example/affixity/affixity/ocfl/OcflVersion;" (some 0) with kind := .array 10 (.object "com/example/affixity/affixity/ocfl/OcflVersion"), interfaces := #[11, 2], accessFlags := 1041 }

def heap : Heap := #[{ cls := 7, slots := #[.long 0, .int 1, .null, .int 0, .null, .int 0, .int 0], vm := .statics 7 },
  { cls := 10, slots := #[.ref 4, .ref 5, .null, .ref 3], vm := .statics 10 },
  { cls := 20, slots := #[.null, .null, .null], vm := .statics 20 },
  { cls := 27, slots := #[.ref 4, .ref 5], vm := .none },
  { cls := 10, slots := #[.null, .int 0, .int 0, .ref 6], vm := .none },
  { cls := 10, slots := #[.null, .int 1, .int 0, .ref 7], vm := .none },
  { cls := 7, slots := #[.ref 8, .int 0, .int 0, .int 0], vm := .none },
  { cls := 7, slots := #[.ref 9, .int 0, .int 0, .int 0], vm := .none },
  { cls := 22, slots := #[.int 49, .int 46, .int 48], vm := .none },
  { cls := 22, slots := #[.int 49, .int 46, .int 49], vm := .none }]
def classes : Array Class := #[k0, k1, k2, k3, k4, k5, k6, k7, k8, k9, k10, k11, k12, k13, k14, k15, k16, k17, k18, k19, k20, k21, k22, k23, k24, k25, k26, k27]
def interned : List (Array UInt16 × Addr) := []
def slotsUsed : Nat := 38
def theMethod : MethodId := ⟨1, 1⟩
def args0 : Array Value := #[.int 0, .int 5, .int 65, .int 1]
def aboutOver (below : List Frame) : State where
  vm := { classes := classes, interned := interned.toArray }
  heap := heap
  slotsUsed := slotsUsed
  threads := #[{ frames := .invoking theMethod args0 :: below }]
def below0 : List Frame := [.native { method := ⟨0, 0⟩, args := #[] }]
def about1 : State := aboutOver below0
def p0 : Program := .bare "" "" ""
def e0 : Env := launch0.env 0 0 0
theorem w_frames : about1.frames = Frame.invoking theMethod args0 :: below0 := rfl
set_option maxRecDepth 65536 in
theorem w_args : argsFit about1.vm theMethod args0 = true := by decide +kernel
set_option maxRecDepth 65536 in
theorem w_heap : heapFits about1 = true := by decide +kernel
set_option maxRecDepth 65536 in
theorem w_runnable : about1.curStatus? = some .runnable := by decide +kernel
set_option maxRecDepth 65536 in
theorem w_alone : about1.alone = true := by decide +kernel
set_option maxRecDepth 65536 in
theorem w_named : about1.methodNamed? x = some theMethod := by decide +kernel
set_option maxRecDepth 65536 in
theorem w_hears : about1.hears theMethod below0 = true := by decide +kernel
set_option maxRecDepth 65536 in
theorem w_ripe : about1.ripe theMethod args0 below0 = true := by decide +kernel
theorem w_running : about1.status = .running := rfl
set_option maxRecDepth 65536 in
theorem w_room : about1.hasRoom e0.platform room_1 = true :=
  launch0.hasRoom_least _ room_1 (by decide +kernel) (by decide +kernel) (by decide +kernel) (by decide +kernel) (by decide +kernel) (by decide +kernel)
theorem allAtoms_all (ts : List Jvm.Cond) (a : Array Jvm.Value) (st : Jvm.State) : (allAtoms ts).before a st = ts.all (fun c => c.before a st) := by
  induction ts with
  | nil => rfl
  | cons c t ih =>
    show (Jvm.Cond.and c (allAtoms t)).before a st = _
    rw [Jvm.Cond.before_and, ih, List.all_cons]
def words1 : List Jvm.Cond := Jvm.Cond.code x code maxLocals ret :: tables_1
/-- a 'code' word, met by the world's own term for the bytes: nothing is compared byte by byte -/
theorem code_word {y : MethodName} {bytes : ByteArray} {mx : Nat} {rt : Option FieldType} {a : Array Value} {s : State} {m : MethodId} {meth : Method} {c : Code} (h1 : s.methodNamed? y = some m) (h2 : s.vm.method? m = some meth) (h3 : meth.code = some c) (h4 : c.code = bytes)
    (h5 : (c.maxLocals == mx && c.exceptionTable.isEmpty && decide (c.maxStack ≤ mostOperands) && decide (meth.sig.returnType = rt) && !meth.locks && decide (parseMethodDescriptor y.desc = some meth.sig)) = true) : (Jvm.Cond.code y bytes mx rt).before a s = true := by
  simp only [Bool.and_eq_true, beq_iff_eq, Bool.not_eq_true', decide_eq_true_eq] at h5
  obtain ⟨⟨⟨⟨⟨g1, g2⟩, g3⟩, g4⟩, g5⟩, g6⟩ := h5
  simp [Cond.before, Cond.holds, Cond.value, h1, h2, h3, h4, g1, g2, g3, g4, g5, g6]
def isCode : Jvm.Cond → Bool
  | .code _ _ _ _ => true
  | _ => false
theorem all_split {L : List Jvm.Cond} {P : Jvm.Cond → Bool} (h1 : L.all (fun c => isCode c || P c) = true) (h2 : ∀ c ∈ L.filter isCode, P c = true) : L.all P = true := by
  refine List.all_eq_true.mpr fun c hc => ?_
  have h := List.all_eq_true.mp h1 c hc
  rcases Bool.eq_false_or_eq_true (isCode c) with hi | hi
  · exact h2 c (List.mem_filter.mpr ⟨hc, hi⟩)
  · simpa [hi] using h
set_option maxRecDepth 65536 in
theorem w_c0 : (Jvm.Cond.code x code maxLocals ret).before args0 about1 = true := code_word (m := ⟨1, 1⟩) (meth := k1m1) (c := k1c1) (by decide +kernel) rfl rfl rfl (by decide +kernel)
set_option maxRecDepth 65536 in
theorem w_c1 : (Jvm.Cond.code ({ cls := "java/lang/String", name := "<init>", desc := "([C)V" } : Jvm.MethodName) jdk_42_method_3_code (2 : Nat) (Option.none : Option Jvm.ClassFile.FieldType)).before args0 about1 = true := code_word (m := ⟨7, 1⟩) (meth := k7m1) (c := k7c1) (by decide +kernel) rfl rfl rfl (by decide +kernel)
set_option maxRecDepth 65536 in
theorem w_c2 : (Jvm.Cond.code ({ cls := "java/lang/String", name := "<init>", desc := "([CIILjava/lang/Void;)V" } : Jvm.MethodName) jdk_42_method_149_code (6 : Nat) (Option.none : Option Jvm.ClassFile.FieldType)).before args0 about1 = true := code_word (m := ⟨7, 7⟩) (meth := k7m7) (c := k7c7) (by decide +kernel) rfl rfl rfl (by decide +kernel)
set_option maxRecDepth 65536 in
theorem w_c3 : (Jvm.Cond.code ({ cls := "java/lang/Object", name := "<init>", desc := "()V" } : Jvm.MethodName) object_method_1_code (1 : Nat) (Option.none : Option Jvm.ClassFile.FieldType)).before args0 about1 = true := code_word (m := ⟨0, 0⟩) (meth := k0m0) (c := k0c0) (by decide +kernel) rfl rfl rfl (by decide +kernel)
set_option maxRecDepth 65536 in
theorem w_c4 : (Jvm.Cond.code ({ cls := "java/lang/StringUTF16", name := "compress", desc := "([CII)[B" } : Jvm.MethodName) jdk_52_method_16_code (6 : Nat) (Option.some (Jvm.ClassFile.FieldType.array Jvm.ClassFile.FieldType.byte))).before args0 about1 = true := code_word (m := ⟨8, 2⟩) (meth := k8m2) (c := k8c2) (by decide +kernel) rfl rfl rfl (by decide +kernel)
set_option maxRecDepth 65536 in
theorem w_c5 : (Jvm.Cond.code ({ cls := "java/lang/StringUTF16", name := "compress", desc := "([CI[BII)I" } : Jvm.MethodName) jdk_52_method_21_code (7 : Nat) (Option.some Jvm.ClassFile.FieldType.int)).before args0 about1 = true := code_word (m := ⟨8, 3⟩) (meth := k8m3) (c := k8c3) (by decide +kernel) rfl rfl rfl (by decide +kernel)
set_option maxRecDepth 65536 in
theorem w_c6 : (Jvm.Cond.code ({ cls := "java/lang/StringUTF16", name := "coderFromArrayLen", desc := "([BI)B" } : Jvm.MethodName) jdk_52_method_15_code (2 : Nat) (Option.some Jvm.ClassFile.FieldType.byte)).before args0 about1 = true := code_word (m := ⟨8, 1⟩) (meth := k8m1) (c := k8c1) (by decide +kernel) rfl rfl rfl (by decide +kernel)
set_option maxRecDepth 65536 in
theorem w_c7 : (Jvm.Cond.code ({ cls := "com/example/affixity/affixity/ocfl/OcflVersion", name := "ofInventoryType", desc := "(Ljava/lang/String;)Lcom/example/affixity/affixity/ocfl/OcflVersion;" } : Jvm.MethodName) prog_15_method_8_code (6 : Nat) (Option.some (Jvm.ClassFile.FieldType.object "com/example/affixity/affixity/ocfl/OcflVersion"))).before args0 about1 = true := code_word (m := ⟨10, 2⟩) (meth := k10m2) (c := k10c2) (by decide +kernel) rfl rfl rfl (by decide +kernel)
set_option maxRecDepth 65536 in
theorem w_c8 : (Jvm.Cond.code ({ cls := "com/example/affixity/affixity/ocfl/OcflVersion", name := "values", desc := "()[Lcom/example/affixity/affixity/ocfl/OcflVersion;" } : Jvm.MethodName) prog_15_method_1_code (0 : Nat) (Option.some (Jvm.ClassFile.FieldType.array (Jvm.ClassFile.FieldType.object "com/example/affixity/affixity/ocfl/OcflVersion")))).before args0 about1 = true := code_word (m := ⟨10, 0⟩) (meth := k10m0) (c := k10c0) (by decide +kernel) rfl rfl rfl (by decide +kernel)
set_option maxRecDepth 65536 in
theorem w_c9 : (Jvm.Cond.code ({ cls := "com/example/affixity/affixity/ocfl/OcflVersion", name := "inventoryType", desc := "()Ljava/lang/String;" } : Jvm.MethodName) prog_15_method_7_code (1 : Nat) (Option.some (Jvm.ClassFile.FieldType.object "java/lang/String"))).before args0 about1 = true := code_word (m := ⟨10, 1⟩) (meth := k10m1) (c := k10c1) (by decide +kernel) rfl rfl rfl (by decide +kernel)
set_option maxRecDepth 65536 in
theorem w_c10 : (Jvm.Cond.code ({ cls := "java/lang/StringBuilder", name := "<init>", desc := "()V" } : Jvm.MethodName) jdk_67_method_1_code (1 : Nat) (Option.none : Option Jvm.ClassFile.FieldType)).before args0 about1 = true := code_word (m := ⟨14, 0⟩) (meth := k14m0) (c := k14c0) (by decide +kernel) rfl rfl rfl (by decide +kernel)
set_option maxRecDepth 65536 in
theorem w_c11 : (Jvm.Cond.code ({ cls := "java/lang/AbstractStringBuilder", name := "<init>", desc := "(I)V" } : Jvm.MethodName) jdk_68_method_2_code (2 : Nat) (Option.none : Option Jvm.ClassFile.FieldType)).before args0 about1 = true := code_word (m := ⟨13, 1⟩) (meth := k13m1) (c := k13c1) (by decide +kernel) rfl rfl rfl (by decide +kernel)
set_option maxRecDepth 65536 in
theorem w_c12 : (Jvm.Cond.code ({ cls := "java/lang/StringBuilder", name := "append", desc := "(Ljava/lang/String;)Ljava/lang/StringBuilder;" } : Jvm.MethodName) jdk_67_method_7_code (2 : Nat) (Option.some (Jvm.ClassFile.FieldType.object "java/lang/StringBuilder"))).before args0 about1 = true := code_word (m := ⟨14, 1⟩) (meth := k14m1) (c := k14c1) (by decide +kernel) rfl rfl rfl (by decide +kernel)
set_option maxRecDepth 65536 in
theorem w_c13 : (Jvm.Cond.code ({ cls := "java/lang/AbstractStringBuilder", name := "append", desc := "(Ljava/lang/String;)Ljava/lang/AbstractStringBuilder;" } : Jvm.MethodName) jdk_68_method_22_code (3 : Nat) (Option.some (Jvm.ClassFile.FieldType.object "java/lang/AbstractStringBuilder"))).before args0 about1 = true := code_word (m := ⟨13, 5⟩) (meth := k13m5) (c := k13c5) (by decide +kernel) rfl rfl rfl (by decide +kernel)
set_option maxRecDepth 65536 in
theorem w_c14 : (Jvm.Cond.code ({ cls := "java/lang/String", name := "length", desc := "()I" } : Jvm.MethodName) jdk_42_method_54_code (1 : Nat) (Option.some Jvm.ClassFile.FieldType.int)).before args0 about1 = true := code_word (m := ⟨7, 3⟩) (meth := k7m3) (c := k7c3) (by decide +kernel) rfl rfl rfl (by decide +kernel)
set_option maxRecDepth 65536 in
theorem w_c15 : (Jvm.Cond.code ({ cls := "java/lang/String", name := "coder", desc := "()B" } : Jvm.MethodName) jdk_42_method_152_code (1 : Nat) (Option.some Jvm.ClassFile.FieldType.byte)).before args0 about1 = true := code_word (m := ⟨7, 10⟩) (meth := k7m10) (c := k7c10) (by decide +kernel) rfl rfl rfl (by decide +kernel)
set_option maxRecDepth 65536 in
theorem w_c16 : (Jvm.Cond.code ({ cls := "java/lang/AbstractStringBuilder", name := "ensureCapacityInternal", desc := "(I)V" } : Jvm.MethodName) jdk_68_method_9_code (3 : Nat) (Option.none : Option Jvm.ClassFile.FieldType)).before args0 about1 = true := code_word (m := ⟨13, 3⟩) (meth := k13m3) (c := k13c3) (by decide +kernel) rfl rfl rfl (by decide +kernel)
set_option maxRecDepth 65536 in
theorem w_c17 : (Jvm.Cond.code ({ cls := "java/lang/AbstractStringBuilder", name := "putStringAt", desc := "(ILjava/lang/String;)V" } : Jvm.MethodName) jdk_68_method_73_code (3 : Nat) (Option.none : Option Jvm.ClassFile.FieldType)).before args0 about1 = true := code_word (m := ⟨13, 9⟩) (meth := k13m9) (c := k13c9) (by decide +kernel) rfl rfl rfl (by decide +kernel)
set_option maxRecDepth 65536 in
theorem w_c18 : (Jvm.Cond.code ({ cls := "java/lang/AbstractStringBuilder", name := "inflateIfNeededFor", desc := "(Ljava/lang/String;)V" } : Jvm.MethodName) jdk_68_method_71_code (2 : Nat) (Option.none : Option Jvm.ClassFile.FieldType)).before args0 about1 = true := code_word (m := ⟨13, 8⟩) (meth := k13m8) (c := k13c8) (by decide +kernel) rfl rfl rfl (by decide +kernel)
set_option maxRecDepth 65536 in
theorem w_c19 : (Jvm.Cond.code ({ cls := "java/lang/String", name := "getBytes", desc := "([BIB)V" } : Jvm.MethodName) jdk_42_method_147_code (4 : Nat) (Option.none : Option Jvm.ClassFile.FieldType)).before args0 about1 = true := code_word (m := ⟨7, 6⟩) (meth := k7m6) (c := k7c6) (by decide +kernel) rfl rfl rfl (by decide +kernel)
set_option maxRecDepth 65536 in
theorem w_c20 : (Jvm.Cond.code ({ cls := "java/lang/AbstractStringBuilder", name := "newCapacity", desc := "(I)I" } : Jvm.MethodName) jdk_68_method_10_code (6 : Nat) (Option.some Jvm.ClassFile.FieldType.int)).before args0 about1 = true := code_word (m := ⟨13, 4⟩) (meth := k13m4) (c := k13c4) (by decide +kernel) rfl rfl rfl (by decide +kernel)
set_option maxRecDepth 65536 in
theorem w_c21 : (Jvm.Cond.code ({ cls := "jdk/internal/util/ArraysSupport", name := "newLength", desc := "(III)I" } : Jvm.MethodName) jdk_48_method_27_code (4 : Nat) (Option.some Jvm.ClassFile.FieldType.int)).before args0 about1 = true := code_word (m := ⟨16, 1⟩) (meth := k16m1) (c := k16c1) (by decide +kernel) rfl rfl rfl (by decide +kernel)
set_option maxRecDepth 65536 in
theorem w_c22 : (Jvm.Cond.code ({ cls := "java/lang/Math", name := "max", desc := "(II)I" } : Jvm.MethodName) jdk_29_method_65_code (2 : Nat) (Option.some Jvm.ClassFile.FieldType.int)).before args0 about1 = true := code_word (m := ⟨17, 1⟩) (meth := k17m1) (c := k17c1) (by decide +kernel) rfl rfl rfl (by decide +kernel)
set_option maxRecDepth 65536 in
theorem w_c23 : (Jvm.Cond.code ({ cls := "java/util/Arrays", name := "copyOf", desc := "([BI)[B" } : Jvm.MethodName) jdk_65_method_121_code (3 : Nat) (Option.some (Jvm.ClassFile.FieldType.array Jvm.ClassFile.FieldType.byte))).before args0 about1 = true := code_word (m := ⟨18, 1⟩) (meth := k18m1) (c := k18c1) (by decide +kernel) rfl rfl rfl (by decide +kernel)
set_option maxRecDepth 65536 in
theorem w_c24 : (Jvm.Cond.code ({ cls := "java/lang/Math", name := "min", desc := "(II)I" } : Jvm.MethodName) jdk_29_method_69_code (2 : Nat) (Option.some Jvm.ClassFile.FieldType.int)).before args0 about1 = true := code_word (m := ⟨17, 2⟩) (meth := k17m2) (c := k17c2) (by decide +kernel) rfl rfl rfl (by decide +kernel)
set_option maxRecDepth 65536 in
theorem w_c25 : (Jvm.Cond.code ({ cls := "java/lang/StringBuilder", name := "toString", desc := "()Ljava/lang/String;" } : Jvm.MethodName) jdk_67_method_42_code (1 : Nat) (Option.some (Jvm.ClassFile.FieldType.object "java/lang/String"))).before args0 about1 = true := code_word (m := ⟨14, 2⟩) (meth := k14m2) (c := k14c2) (by decide +kernel) rfl rfl rfl (by decide +kernel)
set_option maxRecDepth 65536 in
theorem w_c26 : (Jvm.Cond.code ({ cls := "java/lang/String", name := "<init>", desc := "(Ljava/lang/StringBuilder;)V" } : Jvm.MethodName) jdk_42_method_53_code (2 : Nat) (Option.none : Option Jvm.ClassFile.FieldType)).before args0 about1 = true := code_word (m := ⟨7, 2⟩) (meth := k7m2) (c := k7c2) (by decide +kernel) rfl rfl rfl (by decide +kernel)
set_option maxRecDepth 65536 in
theorem w_c27 : (Jvm.Cond.code ({ cls := "java/lang/String", name := "<init>", desc := "(Ljava/lang/AbstractStringBuilder;Ljava/lang/Void;)V" } : Jvm.MethodName) jdk_42_method_150_code (5 : Nat) (Option.none : Option Jvm.ClassFile.FieldType)).before args0 about1 = true := code_word (m := ⟨7, 8⟩) (meth := k7m8) (c := k7c8) (by decide +kernel) rfl rfl rfl (by decide +kernel)
set_option maxRecDepth 65536 in
theorem w_c28 : (Jvm.Cond.code ({ cls := "java/lang/AbstractStringBuilder", name := "getValue", desc := "()[B" } : Jvm.MethodName) jdk_68_method_64_code (1 : Nat) (Option.some (Jvm.ClassFile.FieldType.array Jvm.ClassFile.FieldType.byte))).before args0 about1 = true := code_word (m := ⟨13, 6⟩) (meth := k13m6) (c := k13c6) (by decide +kernel) rfl rfl rfl (by decide +kernel)
set_option maxRecDepth 65536 in
theorem w_c29 : (Jvm.Cond.code ({ cls := "java/lang/StringBuilder", name := "length", desc := "()I" } : Jvm.MethodName) jdk_67_method_93_code (1 : Nat) (Option.some Jvm.ClassFile.FieldType.int)).before args0 about1 = true := code_word (m := ⟨14, 3⟩) (meth := k14m3) (c := k14c3) (by decide +kernel) rfl rfl rfl (by decide +kernel)
set_option maxRecDepth 65536 in
theorem w_c30 : (Jvm.Cond.code ({ cls := "java/lang/AbstractStringBuilder", name := "length", desc := "()I" } : Jvm.MethodName) jdk_68_method_6_code (1 : Nat) (Option.some Jvm.ClassFile.FieldType.int)).before args0 about1 = true := code_word (m := ⟨13, 2⟩) (meth := k13m2) (c := k13c2) (by decide +kernel) rfl rfl rfl (by decide +kernel)
set_option maxRecDepth 65536 in
theorem w_c31 : (Jvm.Cond.code ({ cls := "java/lang/AbstractStringBuilder", name := "isLatin1", desc := "()Z" } : Jvm.MethodName) jdk_68_method_68_code (1 : Nat) (Option.some Jvm.ClassFile.FieldType.boolean)).before args0 about1 = true := code_word (m := ⟨13, 7⟩) (meth := k13m7) (c := k13c7) (by decide +kernel) rfl rfl rfl (by decide +kernel)
set_option maxRecDepth 65536 in
theorem w_c32 : (Jvm.Cond.code ({ cls := "java/util/Arrays", name := "copyOfRange", desc := "([BII)[B" } : Jvm.MethodName) jdk_65_method_132_code (3 : Nat) (Option.some (Jvm.ClassFile.FieldType.array Jvm.ClassFile.FieldType.byte))).before args0 about1 = true := code_word (m := ⟨18, 3⟩) (meth := k18m3) (c := k18c3) (by decide +kernel) rfl rfl rfl (by decide +kernel)
set_option maxRecDepth 65536 in
theorem w_c33 : (Jvm.Cond.code ({ cls := "java/util/Arrays", name := "copyOfRangeByte", desc := "([BII)[B" } : Jvm.MethodName) jdk_65_method_133_code (5 : Nat) (Option.some (Jvm.ClassFile.FieldType.array Jvm.ClassFile.FieldType.byte))).before args0 about1 = true := code_word (m := ⟨18, 4⟩) (meth := k18m4) (c := k18c4) (by decide +kernel) rfl rfl rfl (by decide +kernel)
set_option maxRecDepth 65536 in
theorem w_c34 : (Jvm.Cond.code ({ cls := "java/util/Arrays", name := "checkLength", desc := "(II)V" } : Jvm.MethodName) jdk_65_method_131_code (2 : Nat) (Option.none : Option Jvm.ClassFile.FieldType)).before args0 about1 = true := code_word (m := ⟨18, 2⟩) (meth := k18m2) (c := k18c2) (by decide +kernel) rfl rfl rfl (by decide +kernel)
set_option maxRecDepth 65536 in
theorem w_c35 : (Jvm.Cond.code ({ cls := "java/lang/String", name := "equals", desc := "(Ljava/lang/Object;)Z" } : Jvm.MethodName) jdk_42_method_66_code (3 : Nat) (Option.some Jvm.ClassFile.FieldType.boolean)).before args0 about1 = true := code_word (m := ⟨7, 4⟩) (meth := k7m4) (c := k7c4) (by decide +kernel) rfl rfl rfl (by decide +kernel)
set_option maxRecDepth 65536 in
theorem w_c36 : (Jvm.Cond.code ({ cls := "java/lang/StringLatin1", name := "equals", desc := "([B[B)Z" } : Jvm.MethodName) jdk_43_method_13_code (3 : Nat) (Option.some Jvm.ClassFile.FieldType.boolean)).before args0 about1 = true := code_word (m := ⟨19, 2⟩) (meth := k19m2) (c := k19c2) (by decide +kernel) rfl rfl rfl (by decide +kernel)
set_option maxRecDepth 65536 in
theorem w_c37 : (Jvm.Cond.code ({ cls := "java/lang/String", name := "valueOf", desc := "(C)Ljava/lang/String;" } : Jvm.MethodName) jdk_42_method_139_code (1 : Nat) (Option.some (Jvm.ClassFile.FieldType.object "java/lang/String"))).before args0 about1 = true := code_word (m := ⟨7, 5⟩) (meth := k7m5) (c := k7c5) (by decide +kernel) rfl rfl rfl (by decide +kernel)
set_option maxRecDepth 65536 in
theorem w_c38 : (Jvm.Cond.code ({ cls := "java/lang/StringLatin1", name := "canEncode", desc := "(C)Z" } : Jvm.MethodName) jdk_43_method_3_code (1 : Nat) (Option.some Jvm.ClassFile.FieldType.boolean)).before args0 about1 = true := code_word (m := ⟨19, 1⟩) (meth := k19m1) (c := k19c1) (by decide +kernel) rfl rfl rfl (by decide +kernel)
set_option maxRecDepth 65536 in
theorem w_c39 : (Jvm.Cond.code ({ cls := "java/lang/StringLatin1", name := "toBytes", desc := "(C)[B" } : Jvm.MethodName) jdk_43_method_46_code (1 : Nat) (Option.some (Jvm.ClassFile.FieldType.array Jvm.ClassFile.FieldType.byte))).before args0 about1 = true := code_word (m := ⟨19, 3⟩) (meth := k19m3) (c := k19c3) (by decide +kernel) rfl rfl rfl (by decide +kernel)
set_option maxRecDepth 65536 in
theorem w_c40 : (Jvm.Cond.code ({ cls := "java/lang/String", name := "<init>", desc := "([BB)V" } : Jvm.MethodName) jdk_42_method_151_code (3 : Nat) (Option.none : Option Jvm.ClassFile.FieldType)).before args0 about1 = true := code_word (m := ⟨7, 9⟩) (meth := k7m9) (c := k7c9) (by decide +kernel) rfl rfl rfl (by decide +kernel)
def codes1 : List Jvm.Cond := [Jvm.Cond.code x code maxLocals ret, Jvm.Cond.code ({ cls := "java/lang/String", name := "<init>", desc := "([C)V" } : Jvm.MethodName) jdk_42_method_3_code (2 : Nat) (Option.none : Option Jvm.ClassFile.FieldType), Jvm.Cond.code ({ cls := "java/lang/String", name := "<init>", desc := "([CIILjava/lang/Void;)V" } : Jvm.MethodName) jdk_42_method_149_code (6 : Nat) (Option.none : Option Jvm.ClassFile.FieldType), Jvm.Cond.code ({ cls := "java/lang/Object", name := "<init>", desc := "()V" } : Jvm.MethodName) object_method_1_code (1 : Nat) (Option.none : Option Jvm.ClassFile.FieldType), Jvm.Cond.code ({ cls := "java/lang/StringUTF16", name := "compress", desc := "([CII)[B" } : Jvm.MethodName) jdk_52_method_16_code (6 : Nat) (Option.some (Jvm.ClassFile.FieldType.array Jvm.ClassFile.FieldType.byte)), Jvm.Cond.code ({ cls := "java/lang/StringUTF16", name := "compress", desc := "([CI[BII)I" } : Jvm.MethodName) jdk_52_method_21_code (7 : Nat) (Option.some Jvm.ClassFile.FieldType.int), Jvm.Cond.code ({ cls := "java/lang/StringUTF16", name := "coderFromArrayLen", desc := "([BI)B" } : Jvm.MethodName) jdk_52_method_15_code (2 : Nat) (Option.some Jvm.ClassFile.FieldType.byte), Jvm.Cond.code ({ cls := "com/example/affixity/affixity/ocfl/OcflVersion", name := "ofInventoryType", desc := "(Ljava/lang/String;)Lcom/example/affixity/affixity/ocfl/OcflVersion;" } : Jvm.MethodName) prog_15_method_8_code (6 : Nat) (Option.some (Jvm.ClassFile.FieldType.object "com/example/affixity/affixity/ocfl/OcflVersion")), Jvm.Cond.code ({ cls := "com/example/affixity/affixity/ocfl/OcflVersion", name := "values", desc := "()[Lcom/example/affixity/affixity/ocfl/OcflVersion;" } : Jvm.MethodName) prog_15_method_1_code (0 : Nat) (Option.some (Jvm.ClassFile.FieldType.array (Jvm.ClassFile.FieldType.object "com/example/affixity/affixity/ocfl/OcflVersion"))), Jvm.Cond.code ({ cls := "com/example/affixity/affixity/ocfl/OcflVersion", name := "inventoryType", desc := "()Ljava/lang/String;" } : Jvm.MethodName) prog_15_method_7_code (1 : Nat) (Option.some (Jvm.ClassFile.FieldType.object "java/lang/String")), Jvm.Cond.code ({ cls := "java/lang/StringBuilder", name := "<init>", desc := "()V" } : Jvm.MethodName) jdk_67_method_1_code (1 : Nat) (Option.none : Option Jvm.ClassFile.FieldType), Jvm.Cond.code ({ cls := "java/lang/AbstractStringBuilder", name := "<init>", desc := "(I)V" } : Jvm.MethodName) jdk_68_method_2_code (2 : Nat) (Option.none : Option Jvm.ClassFile.FieldType), Jvm.Cond.code ({ cls := "java/lang/StringBuilder", name := "append", desc := "(Ljava/lang/String;)Ljava/lang/StringBuilder;" } : Jvm.MethodName) jdk_67_method_7_code (2 : Nat) (Option.some (Jvm.ClassFile.FieldType.object "java/lang/StringBuilder")), Jvm.Cond.code ({ cls := "java/lang/AbstractStringBuilder", name := "append", desc := "(Ljava/lang/String;)Ljava/lang/AbstractStringBuilder;" } : Jvm.MethodName) jdk_68_method_22_code (3 : Nat) (Option.some (Jvm.ClassFile.FieldType.object "java/lang/AbstractStringBuilder")), Jvm.Cond.code ({ cls := "java/lang/String", name := "length", desc := "()I" } : Jvm.MethodName) jdk_42_method_54_code (1 : Nat) (Option.some Jvm.ClassFile.FieldType.int), Jvm.Cond.code ({ cls := "java/lang/String", name := "coder", desc := "()B" } : Jvm.MethodName) jdk_42_method_152_code (1 : Nat) (Option.some Jvm.ClassFile.FieldType.byte), Jvm.Cond.code ({ cls := "java/lang/AbstractStringBuilder", name := "ensureCapacityInternal", desc := "(I)V" } : Jvm.MethodName) jdk_68_method_9_code (3 : Nat) (Option.none : Option Jvm.ClassFile.FieldType), Jvm.Cond.code ({ cls := "java/lang/AbstractStringBuilder", name := "putStringAt", desc := "(ILjava/lang/String;)V" } : Jvm.MethodName) jdk_68_method_73_code (3 : Nat) (Option.none : Option Jvm.ClassFile.FieldType), Jvm.Cond.code ({ cls := "java/lang/AbstractStringBuilder", name := "inflateIfNeededFor", desc := "(Ljava/lang/String;)V" } : Jvm.MethodName) jdk_68_method_71_code (2 : Nat) (Option.none : Option Jvm.ClassFile.FieldType), Jvm.Cond.code ({ cls := "java/lang/String", name := "getBytes", desc := "([BIB)V" } : Jvm.MethodName) jdk_42_method_147_code (4 : Nat) (Option.none : Option Jvm.ClassFile.FieldType), Jvm.Cond.code ({ cls := "java/lang/AbstractStringBuilder", name := "newCapacity", desc := "(I)I" } : Jvm.MethodName) jdk_68_method_10_code (6 : Nat) (Option.some Jvm.ClassFile.FieldType.int), Jvm.Cond.code ({ cls := "jdk/internal/util/ArraysSupport", name := "newLength", desc := "(III)I" } : Jvm.MethodName) jdk_48_method_27_code (4 : Nat) (Option.some Jvm.ClassFile.FieldType.int), Jvm.Cond.code ({ cls := "java/lang/Math", name := "max", desc := "(II)I" } : Jvm.MethodName) jdk_29_method_65_code (2 : Nat) (Option.some Jvm.ClassFile.FieldType.int), Jvm.Cond.code ({ cls := "java/util/Arrays", name := "copyOf", desc := "([BI)[B" } : Jvm.MethodName) jdk_65_method_121_code (3 : Nat) (Option.some (Jvm.ClassFile.FieldType.array Jvm.ClassFile.FieldType.byte)), Jvm.Cond.code ({ cls := "java/lang/Math", name := "min", desc := "(II)I" } : Jvm.MethodName) jdk_29_method_69_code (2 : Nat) (Option.some Jvm.ClassFile.FieldType.int), Jvm.Cond.code ({ cls := "java/lang/StringBuilder", name := "toString", desc := "()Ljava/lang/String;" } : Jvm.MethodName) jdk_67_method_42_code (1 : Nat) (Option.some (Jvm.ClassFile.FieldType.object "java/lang/String")), Jvm.Cond.code ({ cls := "java/lang/String", name := "<init>", desc := "(Ljava/lang/StringBuilder;)V" } : Jvm.MethodName) jdk_42_method_53_code (2 : Nat) (Option.none : Option Jvm.ClassFile.FieldType), Jvm.Cond.code ({ cls := "java/lang/String", name := "<init>", desc := "(Ljava/lang/AbstractStringBuilder;Ljava/lang/Void;)V" } : Jvm.MethodName) jdk_42_method_150_code (5 : Nat) (Option.none : Option Jvm.ClassFile.FieldType), Jvm.Cond.code ({ cls := "java/lang/AbstractStringBuilder", name := "getValue", desc := "()[B" } : Jvm.MethodName) jdk_68_method_64_code (1 : Nat) (Option.some (Jvm.ClassFile.FieldType.array Jvm.ClassFile.FieldType.byte)), Jvm.Cond.code ({ cls := "java/lang/StringBuilder", name := "length", desc := "()I" } : Jvm.MethodName) jdk_67_method_93_code (1 : Nat) (Option.some Jvm.ClassFile.FieldType.int), Jvm.Cond.code ({ cls := "java/lang/AbstractStringBuilder", name := "length", desc := "()I" } : Jvm.MethodName) jdk_68_method_6_code (1 : Nat) (Option.some Jvm.ClassFile.FieldType.int), Jvm.Cond.code ({ cls := "java/lang/AbstractStringBuilder", name := "isLatin1", desc := "()Z" } : Jvm.MethodName) jdk_68_method_68_code (1 : Nat) (Option.some Jvm.ClassFile.FieldType.boolean), Jvm.Cond.code ({ cls := "java/util/Arrays", name := "copyOfRange", desc := "([BII)[B" } : Jvm.MethodName) jdk_65_method_132_code (3 : Nat) (Option.some (Jvm.ClassFile.FieldType.array Jvm.ClassFile.FieldType.byte)), Jvm.Cond.code ({ cls := "java/util/Arrays", name := "copyOfRangeByte", desc := "([BII)[B" } : Jvm.MethodName) jdk_65_method_133_code (5 : Nat) (Option.some (Jvm.ClassFile.FieldType.array Jvm.ClassFile.FieldType.byte)), Jvm.Cond.code ({ cls := "java/util/Arrays", name := "checkLength", desc := "(II)V" } : Jvm.MethodName) jdk_65_method_131_code (2 : Nat) (Option.none : Option Jvm.ClassFile.FieldType), Jvm.Cond.code ({ cls := "java/lang/String", name := "equals", desc := "(Ljava/lang/Object;)Z" } : Jvm.MethodName) jdk_42_method_66_code (3 : Nat) (Option.some Jvm.ClassFile.FieldType.boolean), Jvm.Cond.code ({ cls := "java/lang/StringLatin1", name := "equals", desc := "([B[B)Z" } : Jvm.MethodName) jdk_43_method_13_code (3 : Nat) (Option.some Jvm.ClassFile.FieldType.boolean), Jvm.Cond.code ({ cls := "java/lang/String", name := "valueOf", desc := "(C)Ljava/lang/String;" } : Jvm.MethodName) jdk_42_method_139_code (1 : Nat) (Option.some (Jvm.ClassFile.FieldType.object "java/lang/String")), Jvm.Cond.code ({ cls := "java/lang/StringLatin1", name := "canEncode", desc := "(C)Z" } : Jvm.MethodName) jdk_43_method_3_code (1 : Nat) (Option.some Jvm.ClassFile.FieldType.boolean), Jvm.Cond.code ({ cls := "java/lang/StringLatin1", name := "toBytes", desc := "(C)[B" } : Jvm.MethodName) jdk_43_method_46_code (1 : Nat) (Option.some (Jvm.ClassFile.FieldType.array Jvm.ClassFile.FieldType.byte)), Jvm.Cond.code ({ cls := "java/lang/String", name := "<init>", desc := "([BB)V" } : Jvm.MethodName) jdk_42_method_151_code (3 : Nat) (Option.none : Option Jvm.ClassFile.FieldType)]
set_option maxRecDepth 65536 in
theorem codes_eq : words1.filter isCode = codes1 := rfl
theorem w_codes : ∀ c ∈ words1.filter isCode, c.before args0 about1 = true := by
  rw [codes_eq]
  intro c hc
  simp only [codes1, List.mem_cons, List.not_mem_nil, or_false] at hc
  rcases hc with rfl | rfl | rfl | rfl | rfl | rfl | rfl | rfl | rfl | rfl | rfl | rfl | rfl | rfl | rfl | rfl | rfl | rfl | rfl | rfl | rfl | rfl | rfl | rfl | rfl | rfl | rfl | rfl | rfl | rfl | rfl | rfl | rfl | rfl | rfl | rfl | rfl | rfl | rfl | rfl | rfl
  · exact w_c0
  · exact w_c1
  · exact w_c2
  · exact w_c3
  · exact w_c4
  · exact w_c5
  · exact w_c6
  · exact w_c7
  · exact w_c8
  · exact w_c9
  · exact w_c10
  · exact w_c11
  · exact w_c12
  · exact w_c13
  · exact w_c14
  · exact w_c15
  · exact w_c16
  · exact w_c17
  · exact w_c18
  · exact w_c19
  · exact w_c20
  · exact w_c21
  · exact w_c22
  · exact w_c23
  · exact w_c24
  · exact w_c25
  · exact w_c26
  · exact w_c27
  · exact w_c28
  · exact w_c29
  · exact w_c30
  · exact w_c31
  · exact w_c32
  · exact w_c33
  · exact w_c34
  · exact w_c35
  · exact w_c36
  · exact w_c37
  · exact w_c38
  · exact w_c39
  · exact w_c40
set_option maxRecDepth 65536 in
theorem w_t1 : (words1.take 24).all (fun c => isCode c || c.before args0 about1) = true := by decide +kernel
set_option maxRecDepth 65536 in
theorem w_t2 : ((words1.drop 24).take 24).all (fun c => isCode c || c.before args0 about1) = true := by decide +kernel
set_option maxRecDepth 65536 in
theorem w_t3 : (((words1.drop 24).drop 24).take 24).all (fun c => isCode c || c.before args0 about1) = true := by decide +kernel
set_option maxRecDepth 65536 in
theorem w_t4 : ((((words1.drop 24).drop 24).drop 24).take 24).all (fun c => isCode c || c.before args0 about1) = true := by decide +kernel
set_option maxRecDepth 65536 in
theorem w_t5 : (((((words1.drop 24).drop 24).drop 24).drop 24).take 24).all (fun c => isCode c || c.before args0 about1) = true := by decide +kernel
set_option maxRecDepth 65536 in
theorem w_t6 : ((((((words1.drop 24).drop 24).drop 24).drop 24).drop 24).take 24).all (fun c => isCode c || c.before args0 about1) = true := by decide +kernel
set_option maxRecDepth 65536 in
theorem w_t7 : (((((((words1.drop 24).drop 24).drop 24).drop 24).drop 24).drop 24).take 24).all (fun c => isCode c || c.before args0 about1) = true := by decide +kernel
set_option maxRecDepth 65536 in
theorem w_t8 : ((((((((words1.drop 24).drop 24).drop 24).drop 24).drop 24).drop 24).drop 24).take 24).all (fun c => isCode c || c.before args0 about1) = true := by decide +kernel
set_option maxRecDepth 65536 in
theorem w_t9 : ((((((((words1.drop 24).drop 24).drop 24).drop 24).drop 24).drop 24).drop 24).drop 24).all (fun c => isCode c || c.before args0 about1) = true := by decide +kernel
theorem w_tables : (allAtoms (Jvm.Cond.code x code maxLocals ret :: tables_1)).before args0 about1 = true := by
  rw [allAtoms_all]
  show words1.all (fun c => c.before args0 about1) = true
  refine all_split ?_ w_codes
  rw [← List.take_append_drop 24 words1, List.all_append, w_t1, ← List.take_append_drop 24 (words1.drop 24), List.all_append, w_t2, ← List.take_append_drop 24 ((words1.drop 24).drop 24), List.all_append, w_t3, ← List.take_append_drop 24 (((words1.drop 24).drop 24).drop 24), List.all_append, w_t4, ← List.take_append_drop 24 ((((words1.drop 24).drop 24).drop 24).drop 24), List.all_append, w_t5, ← List.take_append_drop 24 (((((words1.drop 24).drop 24).drop 24).drop 24).drop 24), List.all_append, w_t6, ← List.take_append_drop 24 ((((((words1.drop 24).drop 24).drop 24).drop 24).drop 24).drop 24), List.all_append, w_t7, ← List.take_append_drop 24 (((((((words1.drop 24).drop 24).drop 24).drop 24).drop 24).drop 24).drop 24), List.all_append, w_t8, w_t9]
  rfl
set_option maxRecDepth 65536 in
theorem w_rest : rest_1_c.before args0 about1 = true := by decide +kernel
set_option maxRecDepth 65536 in
theorem w_case : (Jvm.Cond.and given_1 narrow_1).before args0 about1 = true := by decide +kernel
set_option maxRecDepth 65536 in
theorem w_consts : constsHeld consts_1 about1 := Jvm.Lit.constsHeldB_iff.mp (by decide +kernel)
theorem w_applies : (headSpec (Jvm.Cond.code x code maxLocals ret :: tables_1) room_1).applies x e0.platform about1 = true :=
  (Spec.applies_iff w_frames).mpr ⟨w_running, w_runnable, w_alone, w_named, w_hears, w_ripe, w_room, w_tables⟩
theorem atStart : AtStart classFile x code maxLocals ret World_1 tables_1 room_1 Calls_1 rest_1 Pre_1 launch0 p0 e0 about1 theMethod args0 below0 :=
  ⟨lists_1, trivial, launch0.admits_env _ _ _, launch0.least_env, fairChoices_fair.cas, fairChoices_fair.clock, w_frames, w_args, w_heap, w_applies, ⟨w_consts, trivial⟩, w_rest, w_case⟩
end start1
theorem witness_1 : WitnessClaimed_1 := ⟨start1.p0, start1.e0, start1.about1, start1.theMethod, start1.args0, start1.below0, start1.atStart⟩
end Jvm.Pilot.@@N@@
