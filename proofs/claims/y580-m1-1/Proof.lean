import JvmDerived
import JvmDerived.Pilot.@@N@@Statement
import JvmDerived.Pilot.@@N@@Code
set_option linter.unusedVariables false
set_option linter.unusedSimpArgs false
namespace Jvm.Pilot.@@N@@.W
open Jvm Jvm.ClassFile Sem Op Lib Jvm.Free Jvm.Stand Jvm.LawKit Jvm.RoadKit
/-! own kit: a body's walk in one pass, backwards from its end ('Gl': from here the body comes to its end and there P holds) -/
section Walk
variable {p : Program} {l : Launch} {e : Env} {R : Room} {s : State} {m : MethodId} {args : Array Value} {below : List Frame} {meth : Method} {c : Code} {T T' : State} {locs : List Loc} {cells slots : Nat} {P : Option Value → Heap → List Loc → Prop} {C N : Nat} {Ls : Array Slot} {S : List Value} {pc pc' pc'' : Nat} {g : JFrame}
def Gl (p : Program) (e : Env) (below : List Frame) (s : State) (P : Option Value → Heap → List Loc → Prop) (C N : Nat) (T : State) (g : JFrame) : Prop :=
  ∃ (s₂ : State) (o : Outcome), Steps p.tables e below (T.setTop g) s₂ ∧ s₂.status = .running ∧ Ended s₂ below o ∧ ∃ v L, o = .returned v ∧ P v s₂.heap L ∧ FrameEnd s o s₂ L C N
theorem s1 (g' : JFrame) (h : ∀ t, Steps p.tables e below (T.setTop g') t → Steps p.tables e below (T.setTop g) t) (K : Gl p e below s P C N T g') : Gl p e below s P C N T g := by
  obtain ⟨s₂, o, h1, h2⟩ := K; exact ⟨s₂, o, h _ h1, h2⟩
theorem s2 (g' : JFrame) (h : ∀ t, Steps p.tables e below (T'.setTop g') t → Steps p.tables e below (T.setTop g) t) (K : Gl p e below s P C N T' g') : Gl p e below s P C N T g := by
  obtain ⟨s₂, o, h1, h2⟩ := K; exact ⟨s₂, o, h _ h1, h2⟩
theorem s3 (g' : JFrame) (h : Steps p.tables e below (T.setTop g) (T'.setTop g')) (K : Gl p e below s P C N T' g') : Gl p e below s P C N T g := by
  obtain ⟨s₂, o, h1, h2⟩ := K; exact ⟨s₂, o, h.trans h1, h2⟩
theorem cast {g' : JFrame} (q : g = g') (K : Gl p e below s P C N T g') : Gl p e below s P C N T g := q ▸ K
theorem fin (X : Stand p l e R s m args below meth c T locs cells slots) {v : Option Value} (hv : meth.sig.returnType = none → v = none) (hlk : meth.locks = false)
    (hs : ∀ fs, (∀ (f : JFrame) (acts : List Action), f.method = m → f.locked = none → f.entered = [] → (doReturn e (T.setTop f) acts v).1 = T.setFrames fs) → Steps p.tables e below (T.setTop g) (T.setFrames fs))
    (hP : P v T.heap locs) (hC : cells ≤ C) (hN : slots ≤ N) : Gl p e below s P C N T g := by
  obtain ⟨fs, hr, hrun, hended, hW, hsame⟩ := X.leave hv hlk
  exact ⟨_, _, hs fs hr, hrun, hended, _, _, rfl, hP, ⟨_, rfl⟩, hW, hsame.mono hC hN⟩
theorem retZ (X : Stand p l e R s m args below meth c T locs cells slots) (hx : p.tables.exec = Jvm.exec) (hlk : meth.locks = false) {z z' : Int32} {t : FieldType} (hret : meth.sig.returnType = some t) (ht : t = .boolean ∨ t = .byte ∨ t = .char ∨ t = .short)
    (hd : decode c.code pc = .ok (.ireturn, 1)) (hz : nar t z = z') (hP : P (some (.int z')) T.heap locs) (hC : cells ≤ C) (hN : slots ≤ N) : Gl p e below s P C N T (mkF m pc Ls (.int z :: S)) :=
  fin X (v := some (.int z')) (fun h => by rw [hret] at h; cases h) hlk (fun fs hr => by subst hz; exact RoadKit.retN X hx hret ht hd hr) hP hC hN
theorem retI (X : Stand p l e R s m args below meth c T locs cells slots) (hx : p.tables.exec = Jvm.exec) (hlk : meth.locks = false) {z : Int32} (hret : meth.sig.returnType = some .int)
    (hd : decode c.code pc = .ok (.ireturn, 1)) (hP : P (some (.int z)) T.heap locs) (hC : cells ≤ C) (hN : slots ≤ N) : Gl p e below s P C N T (mkF m pc Ls (.int z :: S)) :=
  fin X (v := some (.int z)) (fun h => by rw [hret] at h; cases h) hlk (fun fs hr => retOut X hx hret rfl (Or.inl ⟨rfl, Or.inl rfl, _, rfl⟩) hd hr) hP hC hN
theorem retL (X : Stand p l e R s m args below meth c T locs cells slots) (hx : p.tables.exec = Jvm.exec) (hlk : meth.locks = false) {z : Int64} (hret : meth.sig.returnType = some .long)
    (hd : decode c.code pc = .ok (.lreturn, 1)) (hP : P (some (.long z)) T.heap locs) (hC : cells ≤ C) (hN : slots ≤ N) : Gl p e below s P C N T (mkF m pc Ls (.long z :: S)) :=
  fin X (v := some (.long z)) (fun h => by rw [hret] at h; cases h) hlk (fun fs hr => retOut X hx hret rfl (Or.inr (Or.inl ⟨rfl, rfl, _, rfl⟩)) hd hr) hP hC hN
theorem retA (X : Stand p l e R s m args below meth c T locs cells slots) (hx : p.tables.exec = Jvm.exec) (hlk : meth.locks = false) {w : Value} {t : FieldType} (hret : meth.sig.returnType = some t) (ht : t.isReference = true) (hw : w.isRef = true) (hn : narrow t w = w)
    (hd : decode c.code pc = .ok (.areturn, 1)) (hP : P (some w) T.heap locs) (hC : cells ≤ C) (hN : slots ≤ N) : Gl p e below s P C N T (mkF m pc Ls (w :: S)) :=
  fin X (v := some w) (fun h => by rw [hret] at h; cases h) hlk (fun fs hr => retOut X hx hret hn (Or.inr (Or.inr (Or.inr (Or.inr ⟨rfl, ht, hw⟩)))) hd hr) hP hC hN
theorem ret0 (X : Stand p l e R s m args below meth c T locs cells slots) (hx : p.tables.exec = Jvm.exec) (hlk : meth.locks = false) (hret : meth.sig.returnType = none)
    (hd : decode c.code pc = .ok (.return_, 1)) (hP : P none T.heap locs) (hC : cells ≤ C) (hN : slots ≤ N) : Gl p e below s P C N T (mkF m pc Ls []) :=
  fin X (v := none) (fun _ => rfl) hlk (fun fs hr => X.returnOut hx hret hd hr) hP hC hN
/-! the branches -/
def cY : ClassFile.Cond → Int32 → Int32 → Prop
  | .eq, x, y => x = y
  | .ne, x, y => ¬ x = y
  | .lt, x, y => x < y
  | .ge, x, y => ¬ x < y
  | .gt, x, y => y < x
  | .le, x, y => ¬ y < x
def cN : ClassFile.Cond → Int32 → Int32 → Prop
  | .eq, x, y => ¬ x = y
  | .ne, x, y => x = y
  | .lt, x, y => ¬ x < y
  | .ge, x, y => x < y
  | .gt, x, y => ¬ y < x
  | .le, x, y => y < x
theorem cOr (cd : ClassFile.Cond) (x y : Int32) : (cY cd x y ∧ if_icmp.holds cd x y = true) ∨ (cN cd x y ∧ if_icmp.holds cd x y = false) := by
  cases cd with
  | eq => by_cases h : x = y; exact Or.inl ⟨h, (teq h).1⟩; exact Or.inr ⟨h, (feq h).1⟩
  | ne => by_cases h : x = y; exact Or.inr ⟨h, (teq h).2⟩; exact Or.inl ⟨h, (feq h).2⟩
  | lt => by_cases h : x < y; exact Or.inl ⟨h, (tlt h).1⟩; exact Or.inr ⟨h, (flt h).1⟩
  | ge => by_cases h : x < y; exact Or.inr ⟨h, (tlt h).2.1⟩; exact Or.inl ⟨h, (flt h).2.1⟩
  | gt => by_cases h : y < x; exact Or.inl ⟨h, (tlt h).2.2.1⟩; exact Or.inr ⟨h, (flt h).2.2.1⟩
  | le => by_cases h : y < x; exact Or.inr ⟨h, (tlt h).2.2.2⟩; exact Or.inl ⟨h, (flt h).2.2.2⟩
def lY : ClassFile.Cond → Int64 → Int64 → Prop
  | .eq, x, y => x = y
  | .ne, x, y => ¬ x = y
  | .lt, x, y => x < y
  | .ge, x, y => ¬ x < y
  | .gt, x, y => y < x
  | .le, x, y => ¬ y < x
def lN : ClassFile.Cond → Int64 → Int64 → Prop
  | .eq, x, y => ¬ x = y
  | .ne, x, y => x = y
  | .lt, x, y => ¬ x < y
  | .ge, x, y => x < y
  | .gt, x, y => ¬ y < x
  | .le, x, y => y < x
theorem lYc {cd : ClassFile.Cond} {x y : Int64} (h : cY cd (lcmpW x y) 0) : lY cd x y := by
  rw [lcW] at h
  cases cd with
  | eq => exact (lc_eq x y).mp h
  | ne => exact fun q => h ((lc_eq x y).mpr q)
  | lt => exact (lc_lt x y).mp h
  | ge => exact fun q => h ((lc_lt x y).mpr q)
  | gt => exact (lc_gt x y).mp h
  | le => exact fun q => h ((lc_gt x y).mpr q)
theorem lNc {cd : ClassFile.Cond} {x y : Int64} (h : cN cd (lcmpW x y) 0) : lN cd x y := by
  rw [lcW] at h
  cases cd with
  | eq => exact fun q => h ((lc_eq x y).mpr q)
  | ne => exact (lc_eq x y).mp h
  | lt => exact fun q => h ((lc_lt x y).mpr q)
  | ge => exact (lc_lt x y).mp h
  | gt => exact fun q => h ((lc_gt x y).mpr q)
  | le => exact (lc_gt x y).mp h
theorem icmp (X : Stand p l e R s m args below meth c T locs cells slots) (hx : p.tables.exec = Jvm.exec) {cd : ClassFile.Cond} {x y : Int32} {o : Int} (hd : decode c.code pc = .ok (.if_icmp cd o, 3)) (ho : 0 ≤ (pc : Int) + o) (hp : ((pc : Int) + o).toNat = pc') (hq : pc + 3 = pc'')
    (ky : cY cd x y → Gl p e below s P C N T (mkF m pc' Ls S)) (kn : cN cd x y → Gl p e below s P C N T (mkF m pc'' Ls S)) : Gl p e below s P C N T (mkF m pc Ls (.int y :: .int x :: S)) := by
  subst hq
  rcases cOr cd x y with ⟨h1, h2⟩ | ⟨h1, h2⟩
  · exact s1 _ (fun t k => XS.icmpYes X.here hx rfl (pc0 := pc) (pc' := pc') rfl hd rfl h2 ho hp k) (ky h1)
  · exact s1 _ (fun t k => XS.icmpNo X.here hx rfl hd rfl h2 k) (kn h1)
theorem ifc (X : Stand p l e R s m args below meth c T locs cells slots) (hx : p.tables.exec = Jvm.exec) {cd : ClassFile.Cond} {x : Int32} {o : Int} (hd : decode c.code pc = .ok (.ifCond cd o, 3)) (ho : 0 ≤ (pc : Int) + o) (hp : ((pc : Int) + o).toNat = pc') (hq : pc + 3 = pc'')
    (ky : cY cd x 0 → Gl p e below s P C N T (mkF m pc' Ls S)) (kn : cN cd x 0 → Gl p e below s P C N T (mkF m pc'' Ls S)) : Gl p e below s P C N T (mkF m pc Ls (.int x :: S)) := by
  subst hq
  rcases cOr cd x 0 with ⟨h1, h2⟩ | ⟨h1, h2⟩
  · exact s1 _ (fun t k => XS.ifYes X.here hx rfl (pc0 := pc) (pc' := pc') rfl hd rfl ((if0 _ _).trans h2) ho hp k) (ky h1)
  · exact s1 _ (fun t k => XS.ifNo X.here hx rfl hd rfl ((if0 _ _).trans h2) k) (kn h1)
theorem lif (X : Stand p l e R s m args below meth c T locs cells slots) (hx : p.tables.exec = Jvm.exec) {cd : ClassFile.Cond} {x y : Int64} {o : Int} (hd1 : decode c.code pc = .ok (.lcmp, 1)) {pc1 : Nat} (h1 : pc + 1 = pc1) (hd : decode c.code pc1 = .ok (.ifCond cd o, 3)) (ho : 0 ≤ (pc1 : Int) + o) (hp : ((pc1 : Int) + o).toNat = pc') (hq : pc1 + 3 = pc'')
    (ky : lY cd x y → Gl p e below s P C N T (mkF m pc' Ls S)) (kn : lN cd x y → Gl p e below s P C N T (mkF m pc'' Ls S)) : Gl p e below s P C N T (mkF m pc Ls (.long y :: .long x :: S)) := by
  subst h1
  exact s1 (mkF m (pc + 1) Ls (.int (lcmpW x y) :: S)) (fun t k => XS.lcmp X.here hx rfl hd1 rfl k) (ifc X hx hd ho hp hq (fun h => ky (lYc h)) (fun h => kn (lNc h)))
end Walk
/-! arrays of ints and of longs, by what each place holds -/
section Arrays
variable {Z : State} {h h' : Heap} {a b : Addr} {ty : FieldType} {n : Nat} {f : Nat → Int32} {q : Nat → Int64}
def up {α : Type} (f : Nat → α) (j : Nat) (v : α) : Nat → α := fun k => if k = j then v else f k
theorem up_same {α : Type} (f : Nat → α) (j : Nat) (v : α) : up f j v j = v := if_pos rfl
theorem up_other {α : Type} (f : Nat → α) {j k : Nat} (v : α) (h : ¬ k = j) : up f j v k = f k := if_neg h
def AI (Z : State) (h : Heap) (a : Addr) (ty : FieldType) (n : Nat) (f : Nat → Int32) : Prop := ∃ c : Cell, Arr Z h a c ty ∧ c.slots.size = n ∧ ∀ k, k < n → c.slots[k]? = some (.int (f k))
def AJ (Z : State) (h : Heap) (a : Addr) (n : Nat) (f : Nat → Int64) : Prop := ∃ c : Cell, Arr Z h a c .long ∧ c.slots.size = n ∧ ∀ k, k < n → c.slots[k]? = some (.long (f k))
theorem AI.lt (F : AI Z h a ty n f) : a < h.size := by obtain ⟨c, A, -⟩ := F; exact A.lt
theorem AJ.lt (F : AJ Z h a n q) : a < h.size := by obtain ⟨c, A, -⟩ := F; exact A.lt
theorem AI.ext (F : AI Z h a ty n f) (E : Ext h h') : AI Z h' a ty n f := by obtain ⟨c, A, r⟩ := F; exact ⟨c, A.ext E, r⟩
theorem AJ.ext (F : AJ Z h a n q) (E : Ext h h') : AJ Z h' a n q := by obtain ⟨c, A, r⟩ := F; exact ⟨c, A.ext E, r⟩
theorem AI.other {sl : Nat} {v : Value} (F : AI Z h b ty n f) (W : Wr h h' a sl v) (e : b ≠ a) : AI Z h' b ty n f := by obtain ⟨c, A, r⟩ := F; exact ⟨c, A.other W e, r⟩
theorem AJ.other {sl : Nat} {v : Value} (F : AJ Z h b n q) (W : Wr h h' a sl v) (e : b ≠ a) : AJ Z h' b n q := by obtain ⟨c, A, r⟩ := F; exact ⟨c, A.other W e, r⟩
theorem AI.keep {ws : List Addr} (F : AI Z h a ty n f) (K : Keep h h' ws) (e : a ∉ ws) : AI Z h' a ty n f := by obtain ⟨c, A, r⟩ := F; exact ⟨c, ⟨K.2.1 a c A.1 e, A.2⟩, r⟩
theorem AJ.keep {ws : List Addr} (F : AJ Z h a n q) (K : Keep h h' ws) (e : a ∉ ws) : AJ Z h' a n q := by obtain ⟨c, A, r⟩ := F; exact ⟨c, ⟨K.2.1 a c A.1 e, A.2⟩, r⟩
theorem slots_set {c : Cell} {j k : Nat} {v : Value} (hj : j < c.slots.size) : (c.setSlot j v).slots[k]? = if k = j then some v else c.slots[k]? := by
  by_cases e : k = j
  · subst e; simp [Cell.setSlot, hj]
  · simp only [Cell.setSlot, if_neg e]; exact Array.getElem?_setIfInBounds_ne (Ne.symm e)
theorem AI.set {j : Nat} {v : Int32} (F : AI Z h a ty n f) (W : Wr h h' a j (.int v)) (hj : j < n) : AI Z h' a ty n (up f j v) := by
  obtain ⟨c, A, r1, r2⟩ := F
  refine ⟨_, A.same W, by rw [sz_set]; exact r1, fun k hk => ?_⟩
  rw [slots_set (by omega)]
  by_cases e : k = j
  · rw [if_pos e, e, up_same]
  · rw [if_neg e, up_other _ _ e]; exact r2 k hk
theorem AJ.set {j : Nat} {v : Int64} (F : AJ Z h a n q) (W : Wr h h' a j (.long v)) (hj : j < n) : AJ Z h' a n (up q j v) := by
  obtain ⟨c, A, r1, r2⟩ := F
  refine ⟨_, A.same W, by rw [sz_set]; exact r1, fun k hk => ?_⟩
  rw [slots_set (by omega)]
  by_cases e : k = j
  · rw [if_pos e, e, up_same]
  · rw [if_neg e, up_other _ _ e]; exact r2 k hk
theorem clamp {z : Int32} (hz : z.toInt = n) : z.toNatClampNeg = n := by simp only [Int32.toNatClampNeg]; omega
theorem AI.new {k : ClassId} {z : Int32} (A : Arr Z h a (newA k ty z) ty) (hz : z.toInt = n) (hd : defaultValue ty = .int 0) : AI Z h a ty n (fun _ => 0) :=
  ⟨_, A, by rw [sz_new]; exact clamp hz, fun i hi => by rw [← clamp hz] at hi; simp [newA, hi, hd]⟩
theorem AJ.new {k : ClassId} {z : Int32} (A : Arr Z h a (newA k .long z) .long) (hz : z.toInt = n) : AJ Z h a n (fun _ => 0) :=
  ⟨_, A, by rw [sz_new]; exact clamp hz, fun i hi => by rw [← clamp hz] at hi; simp [newA, hi, defaultValue]⟩
theorem AI.congr {f' : Nat → Int32} (F : AI Z h a ty n f) (e : ∀ k, k < n → f' k = f k) : AI Z h a ty n f' := by obtain ⟨c, A, r1, r2⟩ := F; exact ⟨c, A, r1, fun k hk => by rw [e k hk]; exact r2 k hk⟩
theorem AJ.congr {f' : Nat → Int64} (F : AJ Z h a n q) (e : ∀ k, k < n → f' k = q k) : AJ Z h a n f' := by obtain ⟨c, A, r1, r2⟩ := F; exact ⟨c, A, r1, fun k hk => by rw [e k hk]; exact r2 k hk⟩
theorem inb {j : Int32} {k sz : Nat} (hj : j.toInt = k) (hk : k < sz) : ¬ (j < 0 ∨ sz ≤ j.toNatClampNeg) := by
  rw [clamp hj, Int32.lt_iff_toInt_lt, hj, show (0 : Int32).toInt = 0 from rfl]; omega
theorem szI {z : Int32} (hz : z.toInt = n) : Nat.toInt32 n = z := by
  rw [← Int32.toInt_inj, len_toInt (by have := z.toInt_lt; omega), hz]
end Arrays
section Steps
variable {p : Program} {l : Launch} {e : Env} {R : Room} {s : State} {m : MethodId} {args : Array Value} {below : List Frame} {meth : Method} {c : Code} {T T' : State} {locs : List Loc} {cells slots : Nat} {P : Option Value → Heap → List Loc → Prop} {C N : Nat} {Ls : Array Slot} {S : List Value} {pc pc' : Nat} {Z : State} {h : Heap} {a : Addr} {n n0 : Nat} {f : Nat → Int32} {q : Nat → Int64} {a0 : Array Value} {ty : FieldType}
theorem getf (X : Stand p l e R s m args below meth c T locs cells slots) (hx : p.tables.exec = Jvm.exec) (hZ : Z.Warmed39 s.vm) {own R0 O n d host : String} {index : Nat} (hown : s.vm.findClass own = some m.cls) (w : (Cond.fieldLink own index R0 n d).before a0 Z = true ∨ (Cond.fieldLinkNest own index R0 n d host).before a0 Z = true) (via : Via Z R0 O n d)
    (eT : T.heap = h) {v : Value} (F : Fld Z h a O n d v) (hd : decode c.code pc = .ok (.getfield index, 3)) (hq : pc + 3 = pc') (K : ∀ T', Stand p l e R s m args below meth c T' locs cells slots → T'.heap = h → Gl p e below s P C N T' (mkF m pc' Ls (v :: S))) : Gl p e below s P C N T (mkF m pc Ls (.ref a :: S)) := by
  subst hq
  obtain ⟨T', X', e', st⟩ := getF X hx hZ hown w via eT F (g := mkF m pc Ls (.ref a :: S)) rfl rfl hd
  exact s2 _ st (K T' X' e')
theorem gets (X : Stand p l e R s m args below meth c T locs cells slots) (hx : p.tables.exec = Jvm.exec) (hZ : Z.Warmed39 s.vm) {own R0 O n d host : String} {index : Nat} (hown : s.vm.findClass own = some m.cls) (w : (Cond.fieldLink own index R0 n d).before a0 Z = true ∨ (Cond.fieldLinkNest own index R0 n d host).before a0 Z = true) (via : Via Z R0 O n d)
    (eT : T.heap = h) {v : Value} (F : Sta Z h O n d v) (hd : decode c.code pc = .ok (.getstatic index, 3)) (hq : pc + 3 = pc') (K : ∀ T', Stand p l e R s m args below meth c T' locs cells slots → T'.heap = h → Gl p e below s P C N T' (mkF m pc' Ls (v :: S))) : Gl p e below s P C N T (mkF m pc Ls S) := by
  subst hq
  obtain ⟨T', X', e', st⟩ := getS2 X hx hZ hown w via eT F (g := mkF m pc Ls S) rfl hd
  exact s2 _ st (K T' X' e')
theorem putf (X : Stand p l e R s m args below meth c T locs cells slots) (hx : p.tables.exec = Jvm.exec) (hZ : Z.Warmed39 s.vm) {own R0 O n d host Cl : String} {index kk : Nat} (hown : s.vm.findClass own = some m.cls) (w : (Cond.fieldLink own index R0 n d).before a0 Z = true ∨ (Cond.fieldLinkNest own index R0 n d host).before a0 Z = true) (via : Via Z R0 O n d)
    (eT : T.heap = h) {v old : Value} (F : Fld Z h a O n d old) (E : Exa Z h a Cl) (L : (Cond.lays Cl O n d).before a0 Z = true ∨ ((Cond.laysFinal Cl O n d).before a0 Z = true ∧ own = O ∧ meth.name = "<init>")) (wi : (Cond.instantiable Cl kk).before a0 Z = true)
    (hty : parseFieldDescriptor d = some ty) (hn : narrow ty v = v) (hf : fits ty v = true) (N0 : Fr n0 locs) (ga : n0 ≤ a) (hd : decode c.code pc = .ok (.putfield index, 3)) (hq : pc + 3 = pc')
    (K : ∀ T' h' L', Stand p l e R s m args below meth c T' L' cells slots → T'.heap = h' → Wr h h' a (RoadKit.slotOf Z O n d) v → Fld Z h' a O n d v → Fr n0 L' → Gl p e below s P C N T' (mkF m pc' Ls S)) : Gl p e below s P C N T (mkF m pc Ls (v :: .ref a :: S)) := by
  subst hq
  obtain ⟨T', h', X', e', W, st⟩ := putF X hx hZ hown w via eT F E L wi hty hn hf (g := mkF m pc Ls (v :: .ref a :: S)) rfl rfl hd
  exact s2 _ st (K T' h' _ X' e' W (F.same W) (Fr.snoc X' N0 ga))
theorem newo (X : Stand p l e R s m args below meth c T locs cells slots) (hx : p.tables.exec = Jvm.exec) (hZ : Z.Warmed39 s.vm) {own Cl : String} {index n : Nat} (hown : s.vm.findClass own = some m.cls) (w : (Cond.classLink own index Cl).before a0 Z = true) (wi : (Cond.instantiable Cl n).before a0 Z = true) (wz : (Cond.initialized Cl).before a0 Z = true) (eT : T.heap = h)
    (hd : decode c.code pc = .ok (.new index, 3)) (hc : cells + 1 ≤ R.cells) (hl : slots + n ≤ R.slots) (hq : pc + 3 = pc')
    (K : ∀ T' h' a, Stand p l e R s m args below meth c T' locs (cells + 1) (slots + n) → T'.heap = h' → Ext h h' → a = h.size → Exa Z h' a Cl → (∀ {O nm d : String} {ty : FieldType}, Laid Z a0 Cl O nm d → parseFieldDescriptor d = some ty → Fld Z h' a O nm d (defaultValue ty)) → Gl p e below s P C N T' (mkF m pc' Ls (.ref a :: S))) : Gl p e below s P C N T (mkF m pc Ls S) := by
  subst hq
  obtain ⟨T', h', X', e', E, A, D, -, st⟩ := newO X hx hZ hown w wi wz eT (g := mkF m pc Ls S) rfl hd hc hl
  exact s2 _ st (K T' h' _ X' e' E rfl A D)
theorem newi (X : Stand p l e R s m args below meth c T locs cells slots) (hx : p.tables.exec = Jvm.exec) (hZ : Z.Warmed39 s.vm) {aty : ArrayType} (w : (Cond.arrayClass ty).before a0 Z = true) (hty : newarray.typeOf aty = ty) (hdv : defaultValue ty = .int 0) (eT : T.heap = h) {z : Int32} (hd : decode c.code pc = .ok (.newarray aty, 2)) (hz : z.toInt = n) {cap : Nat} (hcap : n ≤ cap) (hb : cap * 8 ≤ 536870912) (hc : cells + 1 ≤ R.cells) (hl : slots + cap ≤ R.slots) (hq : pc + 2 = pc')
    (K : ∀ T' h' a, Stand p l e R s m args below meth c T' locs (cells + 1) (slots + cap) → T'.heap = h' → Ext h h' → a = h.size → AI Z h' a ty n (fun _ => 0) → Gl p e below s P C N T' (mkF m pc' Ls (.ref a :: S))) : Gl p e below s P C N T (mkF m pc Ls (.int z :: S)) := by
  subst hq hty
  obtain ⟨T', h', k, X', e', E, A, st⟩ := newP X hx hZ w eT (g := mkF m pc Ls (.int z :: S)) rfl hd rfl (by rw [Int32.lt_iff_toInt_lt, hz, show (0 : Int32).toInt = 0 from rfl]; omega) (cap := cap) (by rw [clamp hz]; exact hcap) hb hc hl
  exact s2 _ st (K T' h' _ X' e' E rfl (AI.new A hz hdv))
theorem newj (X : Stand p l e R s m args below meth c T locs cells slots) (hx : p.tables.exec = Jvm.exec) (hZ : Z.Warmed39 s.vm) (w : (Cond.arrayClass .long).before a0 Z = true) (eT : T.heap = h) {z : Int32} (hd : decode c.code pc = .ok (.newarray .long, 2)) (hz : z.toInt = n) {cap : Nat} (hcap : n ≤ cap) (hb : cap * 8 ≤ 536870912) (hc : cells + 1 ≤ R.cells) (hl : slots + cap ≤ R.slots) (hq : pc + 2 = pc')
    (K : ∀ T' h' a, Stand p l e R s m args below meth c T' locs (cells + 1) (slots + cap) → T'.heap = h' → Ext h h' → a = h.size → AJ Z h' a n (fun _ => 0) → Gl p e below s P C N T' (mkF m pc' Ls (.ref a :: S))) : Gl p e below s P C N T (mkF m pc Ls (.int z :: S)) := by
  subst hq
  obtain ⟨T', h', k, X', e', E, A, st⟩ := newP X hx hZ (aty := .long) w eT (g := mkF m pc Ls (.int z :: S)) rfl hd rfl (by rw [Int32.lt_iff_toInt_lt, hz, show (0 : Int32).toInt = 0 from rfl]; omega) (cap := cap) (by rw [clamp hz]; exact hcap) hb hc hl
  exact s2 _ st (K T' h' _ X' e' E rfl (AJ.new A hz))
theorem ldi (X : Stand p l e R s m args below meth c T locs cells slots) (hx : p.tables.exec = Jvm.exec) (hZ : Z.Warmed39 s.vm) (eT : T.heap = h) (F : AI Z h a .int n f) {j : Int32} (k : Nat) (hj : j.toInt = k) (hk : k < n) (hd : decode c.code pc = .ok (.iaload, 1)) (hq : pc + 1 = pc')
    (K : Gl p e below s P C N T (mkF m pc' Ls (.int (f k) :: S))) : Gl p e below s P C N T (mkF m pc Ls (.int j :: .ref a :: S)) := by
  subst hq
  obtain ⟨cl, A, r1, r2⟩ := F
  exact s1 _ (fun t q => X.iaload hx (v := .int (f k)) (by rw [eT]; exact A.1) (State.isArrayOf_alike hZ.alike A.2.1) A.2.2 (inb hj (by omega)) (by rw [clamp hj]; exact r2 k hk) (g := mkF m pc Ls (.int j :: .ref a :: S)) rfl rfl hd t q) K
theorem ldz (X : Stand p l e R s m args below meth c T locs cells slots) (hx : p.tables.exec = Jvm.exec) (hZ : Z.Warmed39 s.vm) (eT : T.heap = h) (F : AI Z h a .boolean n f) {j : Int32} (k : Nat) (hj : j.toInt = k) (hk : k < n) (hd : decode c.code pc = .ok (.baload, 1)) (hq : pc + 1 = pc')
    (K : Gl p e below s P C N T (mkF m pc' Ls (.int (f k) :: S))) : Gl p e below s P C N T (mkF m pc Ls (.int j :: .ref a :: S)) := by
  subst hq
  obtain ⟨cl, A, r1, r2⟩ := F
  exact s1 _ (fun t q => X.baloadBooleans hx (v := .int (f k)) (by rw [eT]; exact A.1) (State.isArrayOf_alike hZ.alike A.2.1) A.2.2 (inb hj (by omega)) (by rw [clamp hj]; exact r2 k hk) (g := mkF m pc Ls (.int j :: .ref a :: S)) rfl rfl hd t q) K
theorem ldb (X : Stand p l e R s m args below meth c T locs cells slots) (hx : p.tables.exec = Jvm.exec) (hZ : Z.Warmed39 s.vm) (eT : T.heap = h) (F : AI Z h a .byte n f) {j : Int32} (k : Nat) (hj : j.toInt = k) (hk : k < n) (hd : decode c.code pc = .ok (.baload, 1)) (hq : pc + 1 = pc')
    (K : Gl p e below s P C N T (mkF m pc' Ls (.int (f k) :: S))) : Gl p e below s P C N T (mkF m pc Ls (.int j :: .ref a :: S)) := by
  subst hq
  obtain ⟨cl, A, r1, r2⟩ := F
  exact s1 _ (fun t q => X.baloadBytes hx (v := .int (f k)) (by rw [eT]; exact A.1) (State.isArrayOf_alike hZ.alike A.2.1) A.2.2 (inb hj (by omega)) (by rw [clamp hj]; exact r2 k hk) (g := mkF m pc Ls (.int j :: .ref a :: S)) rfl rfl hd t q) K
theorem ldj (X : Stand p l e R s m args below meth c T locs cells slots) (hx : p.tables.exec = Jvm.exec) (hZ : Z.Warmed39 s.vm) (eT : T.heap = h) (F : AJ Z h a n q) {j : Int32} (k : Nat) (hj : j.toInt = k) (hk : k < n) (hd : decode c.code pc = .ok (.laload, 1)) (hq : pc + 1 = pc')
    (K : Gl p e below s P C N T (mkF m pc' Ls (.long (q k) :: S))) : Gl p e below s P C N T (mkF m pc Ls (.int j :: .ref a :: S)) := by
  subst hq
  obtain ⟨cl, A, r1, r2⟩ := F
  exact s1 _ (fun t u => X.laload hx (v := .long (q k)) (by rw [eT]; exact A.1) (State.isArrayOf_alike hZ.alike A.2.1) A.2.2 (inb hj (by omega)) (by rw [clamp hj]; exact r2 k hk) (g := mkF m pc Ls (.int j :: .ref a :: S)) rfl rfl hd t u) K
theorem alen (X : Stand p l e R s m args below meth c T locs cells slots) (hx : p.tables.exec = Jvm.exec) (hZ : Z.Warmed39 s.vm) (eT : T.heap = h) (F : AI Z h a ty n f) {z : Int32} (hz : z.toInt = n) (hd : decode c.code pc = .ok (.arraylength, 1)) (hq : pc + 1 = pc')
    (K : Gl p e below s P C N T (mkF m pc' Ls (.int z :: S))) : Gl p e below s P C N T (mkF m pc Ls (.ref a :: S)) := by
  subst hq
  obtain ⟨cl, A, r1, r2⟩ := F
  exact s1 _ (fun t u => X.arraylength hx (by rw [eT]; exact A.1) (State.isArrayOf_alike hZ.alike A.2.1) (g := mkF m pc Ls (.ref a :: S)) rfl rfl hd t (by rw [r1, szI hz]; exact u)) K
theorem alenJ (X : Stand p l e R s m args below meth c T locs cells slots) (hx : p.tables.exec = Jvm.exec) (hZ : Z.Warmed39 s.vm) (eT : T.heap = h) (F : AJ Z h a n q) {z : Int32} (hz : z.toInt = n) (hd : decode c.code pc = .ok (.arraylength, 1)) (hq : pc + 1 = pc')
    (K : Gl p e below s P C N T (mkF m pc' Ls (.int z :: S))) : Gl p e below s P C N T (mkF m pc Ls (.ref a :: S)) := by
  subst hq
  obtain ⟨cl, A, r1, r2⟩ := F
  exact s1 _ (fun t u => X.arraylength hx (by rw [eT]; exact A.1) (State.isArrayOf_alike hZ.alike A.2.1) (g := mkF m pc Ls (.ref a :: S)) rfl rfl hd t (by rw [r1, szI hz]; exact u)) K
theorem sti (X : Stand p l e R s m args below meth c T locs cells slots) (hx : p.tables.exec = Jvm.exec) (hZ : Z.Warmed39 s.vm) (eT : T.heap = h) (F : AI Z h a .int n f) {j x : Int32} (k : Nat) (hj : j.toInt = k) (hk : k < n) (N0 : Fr n0 locs) (ga : n0 ≤ a) (hd : decode c.code pc = .ok (.iastore, 1)) (hq : pc + 1 = pc')
    (K : ∀ T' h' L', Stand p l e R s m args below meth c T' L' cells slots → T'.heap = h' → Wr h h' a k (.int x) → AI Z h' a .int n (up f k x) → Fr n0 L' → Gl p e below s P C N T' (mkF m pc' Ls S)) : Gl p e below s P C N T (mkF m pc Ls (.int x :: .int j :: .ref a :: S)) := by
  subst hq
  obtain ⟨cl, A, r1, r2⟩ := F
  obtain ⟨T', h', X', e', W, st⟩ := stI X hx hZ eT A (inb hj (by omega)) (g := mkF m pc Ls (.int x :: .int j :: .ref a :: S)) rfl rfl hd
  have N1 := Fr.snoc X' N0 ga
  rw [clamp hj] at W
  exact s2 _ st (K T' h' _ X' e' W (AI.set ⟨cl, A, r1, r2⟩ W hk) N1)
theorem stz (X : Stand p l e R s m args below meth c T locs cells slots) (hx : p.tables.exec = Jvm.exec) (hZ : Z.Warmed39 s.vm) (eT : T.heap = h) (F : AI Z h a .boolean n f) {j x x' : Int32} (hn : nar .boolean x = x') (k : Nat) (hj : j.toInt = k) (hk : k < n) (N0 : Fr n0 locs) (ga : n0 ≤ a) (hd : decode c.code pc = .ok (.bastore, 1)) (hq : pc + 1 = pc')
    (K : ∀ T' h' L', Stand p l e R s m args below meth c T' L' cells slots → T'.heap = h' → Wr h h' a k (.int x') → AI Z h' a .boolean n (up f k x') → Fr n0 L' → Gl p e below s P C N T' (mkF m pc' Ls S)) : Gl p e below s P C N T (mkF m pc Ls (.int x :: .int j :: .ref a :: S)) := by
  subst hq hn
  obtain ⟨cl, A, r1, r2⟩ := F
  obtain ⟨T', h', X', e', W, st⟩ := stZ X hx hZ eT A (inb hj (by omega)) (g := mkF m pc Ls (.int x :: .int j :: .ref a :: S)) rfl rfl hd
  have N1 := Fr.snoc X' N0 ga
  rw [clamp hj] at W
  exact s2 _ st (K T' h' _ X' e' W (AI.set ⟨cl, A, r1, r2⟩ W hk) N1)
theorem stb (X : Stand p l e R s m args below meth c T locs cells slots) (hx : p.tables.exec = Jvm.exec) (hZ : Z.Warmed39 s.vm) (eT : T.heap = h) (F : AI Z h a .byte n f) {j x x' : Int32} (hn : nar .byte x = x') (k : Nat) (hj : j.toInt = k) (hk : k < n) (N0 : Fr n0 locs) (ga : n0 ≤ a) (hd : decode c.code pc = .ok (.bastore, 1)) (hq : pc + 1 = pc')
    (K : ∀ T' h' L', Stand p l e R s m args below meth c T' L' cells slots → T'.heap = h' → Wr h h' a k (.int x') → AI Z h' a .byte n (up f k x') → Fr n0 L' → Gl p e below s P C N T' (mkF m pc' Ls S)) : Gl p e below s P C N T (mkF m pc Ls (.int x :: .int j :: .ref a :: S)) := by
  subst hq hn
  obtain ⟨cl, A, r1, r2⟩ := F
  obtain ⟨T', h', X', e', W, st⟩ := stB X hx hZ eT A (inb hj (by omega)) (g := mkF m pc Ls (.int x :: .int j :: .ref a :: S)) rfl rfl hd
  have N1 := Fr.snoc X' N0 ga
  rw [clamp hj] at W
  exact s2 _ st (K T' h' _ X' e' W (AI.set ⟨cl, A, r1, r2⟩ W hk) N1)
theorem stj (X : Stand p l e R s m args below meth c T locs cells slots) (hx : p.tables.exec = Jvm.exec) (hZ : Z.Warmed39 s.vm) (eT : T.heap = h) (F : AJ Z h a n q) {j : Int32} {x : Int64} (k : Nat) (hj : j.toInt = k) (hk : k < n) (N0 : Fr n0 locs) (ga : n0 ≤ a) (hd : decode c.code pc = .ok (.lastore, 1)) (hq : pc + 1 = pc')
    (K : ∀ T' h' L', Stand p l e R s m args below meth c T' L' cells slots → T'.heap = h' → Wr h h' a k (.long x) → AJ Z h' a n (up q k x) → Fr n0 L' → Gl p e below s P C N T' (mkF m pc' Ls S)) : Gl p e below s P C N T (mkF m pc Ls (.long x :: .int j :: .ref a :: S)) := by
  subst hq
  obtain ⟨cl, A, r1, r2⟩ := F
  obtain ⟨T', h', X', e', W, st⟩ := stJ X hx hZ eT A (inb hj (by omega)) (g := mkF m pc Ls (.long x :: .int j :: .ref a :: S)) rfl rfl hd
  have N1 := Fr.snoc X' N0 ga
  rw [clamp hj] at W
  exact s2 _ st (K T' h' _ X' e' W (AJ.set ⟨cl, A, r1, r2⟩ W hk) N1)
end Steps
end Jvm.Pilot.@@N@@.W
namespace Jvm.Pilot.@@N@@
open Jvm Jvm.ClassFile Sem Op Lib Jvm.Free Jvm.Stand Jvm.LawKit Jvm.RoadKit Bundle Jvm.Pilot.@@N@@.Jvm.D
def own_g (fo fr : Nat → Int32) : Nat → Int32 := fun k => fo (fr k).toInt.toNat
def own_pick (i a b c : Int32) : Int32 := if i = 0 then a else if i = 1 then b else c
theorem own_n {x y : Int32} (hy : x &&& (3 : Int32) = y) : y = 0 ∨ y = 1 ∨ y = 2 ∨ y = 3 := by
  have h := c_mask x 3 2 (by decide) rfl
  rw [hy] at h
  simp only [← Int32.toInt_inj, show (0 : Int32).toInt = 0 from rfl, show (1 : Int32).toInt = 1 from rfl, show (2 : Int32).toInt = 2 from rfl, show (3 : Int32).toInt = 3 from rfl]
  omega
theorem own_o (x m : Int32) (n : Nat) (hm : m.toInt = n) (h0 : 0 < n) : ∃ k : Nat, ((x &&& (3 : Int32)) % m).toInt = k ∧ k < n := by
  have h := c_mask x 3 2 (by decide) rfl
  have h1 := (c_irem (x &&& (3 : Int32)) m n hm).1 (by omega)
  have h2 := Int.emod_nonneg (x &&& (3 : Int32)).toInt (show (n : Int) ≠ 0 by omega)
  have h3 := Int.emod_lt_of_pos (x &&& (3 : Int32)).toInt (show (0 : Int) < n by omega)
  exact ⟨((x &&& (3 : Int32)) % m).toInt.toNat, by omega, by omega⟩
theorem own_pk {o a b c : Int32} {k n : Nat} (hk : o.toInt = k) (hn : k < n) (h3 : n ≤ 3) (f : Nat → Int32) (f0 : f 0 = a) (f1 : 1 < n → f 1 = b) (f2 : 2 < n → f 2 = c) : f o.toInt.toNat = own_pick o a b c := by
  unfold own_pick
  have e0 : (0 : Int32).toInt = 0 := rfl
  have e1 : (1 : Int32).toInt = 1 := rfl
  have : k = 0 ∨ k = 1 ∨ k = 2 := by omega
  have hkk : o.toInt.toNat = k := by omega
  rw [hkk]
  rcases this with q | q | q
  · rw [if_pos (Int32.toInt_inj.mp (by omega)), q]; exact f0
  · rw [if_neg (fun z => by rw [z] at hk; omega), if_pos (Int32.toInt_inj.mp (by omega)), q]; exact f1 (by omega)
  · rw [if_neg (fun z => by rw [z] at hk; omega), if_neg (fun z => by rw [z] at hk; omega), q]; exact f2 (by omega)
theorem pn_0 : plainName "com/example/vertumnus/vertumnus/engine/SymmetryThenPinLaw" = true := by first | (simp [plainName, overriddenIn]; done) | decide +kernel
theorem ef_2 (m : MethodId) (x0 : Int32) (x1 : Int32) (x2 : Int32) (x3 : Int32) : entryFrame m #[(.int x0), (.int x1), (.int x2), (.int x3)] 4 = mkF m 0 #[.val (.int x0), .val (.int x1), .val (.int x2), .val (.int x3)] [] := by first | (simp [entryFrame, mkF, argsToLocals, Value.category]; done) | rfl
theorem d2_0 : decode method_3_code 0 = .ok (.iload_n 0, 1) := by decide +kernel
theorem d2_1 : decode method_3_code 1 = .ok (.ifCond .ne 5, 3) := by decide +kernel
theorem d2_6 : decode method_3_code 6 = .ok (.iload_n 0, 1) := by decide +kernel
theorem d2_7 : decode method_3_code 7 = .ok (.iconst 1, 1) := by decide +kernel
theorem d2_8 : decode method_3_code 8 = .ok (.if_icmp .ne 5, 3) := by decide +kernel
theorem d2_13 : decode method_3_code 13 = .ok (.iload_n 3, 1) := by decide +kernel
theorem d2_14 : decode method_3_code 14 = .ok (.ireturn, 1) := by decide +kernel
theorem d2_11 : decode method_3_code 11 = .ok (.iload_n 2, 1) := by decide +kernel
theorem d2_12 : decode method_3_code 12 = .ok (.ireturn, 1) := by decide +kernel
theorem d2_4 : decode method_3_code 4 = .ok (.iload_n 1, 1) := by decide +kernel
theorem d2_5 : decode method_3_code 5 = .ok (.ireturn, 1) := by decide +kernel
def Q2 (Z : State) (xi : Int32) (xa : Int32) (xb : Int32) (xc : Int32) (h0 : Heap) (n0 : Nat) (v : Option Value) (h : Heap) (L : List Loc) : Prop := v = some (.int (own_pick xi xa xb xc)) ∧ Fr n0 L ∧ h = h0
set_option maxRecDepth 65536 in
set_option maxHeartbeats 40000000 in
theorem rm2 (l : Launch) (Z : State) (a0 : Array Value) (hw : ∀ d ∈ tables_1, d.before a0 Z = true) (ws : List Jvm.Cond) (xi : Int32) (xa : Int32) (xb : Int32) (xc : Int32) (h0 : Heap) (n0 : Nat) (Z0 : n0 ≤ h0.size) :
    MetFree l (⟨"com/example/vertumnus/vertumnus/engine/SymmetryThenPinLaw", "pick", "(IIII)I"⟩ : MethodName) (head1 (Jvm.Cond.code (⟨"com/example/vertumnus/vertumnus/engine/SymmetryThenPinLaw", "pick", "(IIII)I"⟩ : MethodName) method_3_code 4 (some .int) :: ws) ({ frames := 0, cells := 0, slots := 0, locals := 0 } : Room)) (fun a U => a = #[(.int xi), (.int xa), (.int xb), (.int xc)] ∧ Z.Warmed39 U.vm ∧ U.heap = h0) (fun _ _ _ _ _ => True) (fun _ U o U' => ∃ v L, o = .returned v ∧ Q2 Z xi xa xb xc h0 n0 v U'.heap L ∧ FrameEnd U o U' L ({ frames := 0, cells := 0, slots := 0, locals := 0 } : Room).cells ({ frames := 0, cells := 0, slots := 0, locals := 0 } : Room).slots) := by
  refine MetFree.of_bodySF (plainFor_of_name pn_0) hisR ?_
  intro p e s m args below meth c s₁ Bd hml0 hP hK
  obtain ⟨rfl, hZ, hh⟩ := hP
  have hx := Bd.exec
  have hby := Bd.bytes
  have hml : c.maxLocals = 4 := hml0
  have hown : s.vm.findClass "com/example/vertumnus/vertumnus/engine/SymmetryThenPinLaw" = some m.cls := findClass_of_methodNamed Bd.named
  have hnm := (name_of_methodNamed Bd.named Bd.method).1
  have hlk : meth.locks = false := BodyLoose.notSynchronized Bd
  have X0 : Stand p l e ({ frames := 0, cells := 0, slots := 0, locals := 0 } : Room) s m #[(.int xi), (.int xa), (.int xb), (.int xc)] below meth c s₁ [] 0 0 := Stand.of_body Bd
  have e0 : s₁.heap = h0 := by rw [← hh, Bd.state]; rfl
  have N0 := Fr.nil n0
  show W.Gl p e below s (Q2 Z xi xa xb xc h0 n0) ({ frames := 0, cells := 0, slots := 0, locals := 0 } : Room).cells ({ frames := 0, cells := 0, slots := 0, locals := 0 } : Room).slots s₁ (entryFrame m #[(.int xi), (.int xa), (.int xb), (.int xc)] 4)
  refine W.cast (ef_2 m xi xa xb xc) ?_
  refine W.s1 (mkF m 1 #[.val (.int xi), .val (.int xa), .val (.int xb), .val (.int xc)] [(.int xi)]) (fun _ kx_ => XS.iloadN X0.here hx rfl (hb hby d2_0) rfl kx_) ?_
  refine W.ifc X0 hx (hb hby d2_1) (pc' := 6) (pc'' := 4) (by decide) (by decide) rfl (fun (c1 : ¬ xi = (0 : Int32)) => ?_) (fun (c1 : xi = (0 : Int32)) => ?_)
  · refine W.s1 (mkF m 7 #[.val (.int xi), .val (.int xa), .val (.int xb), .val (.int xc)] [(.int xi)]) (fun _ kx_ => XS.iloadN X0.here hx rfl (hb hby d2_6) rfl kx_) ?_
    refine W.s1 (mkF m 8 #[.val (.int xi), .val (.int xa), .val (.int xb), .val (.int xc)] [(.int (1 : Int32)), (.int xi)]) (fun _ kx_ => XS.iconst X0.here hx rfl (hb hby d2_7) kx_) ?_
    refine W.icmp X0 hx (hb hby d2_8) (pc' := 13) (pc'' := 11) (by decide) (by decide) rfl (fun (c8 : ¬ xi = (1 : Int32)) => ?_) (fun (c8 : xi = (1 : Int32)) => ?_)
    · refine W.s1 (mkF m 14 #[.val (.int xi), .val (.int xa), .val (.int xb), .val (.int xc)] [(.int xc)]) (fun _ kx_ => XS.iloadN X0.here hx rfl (hb hby d2_13) rfl kx_) ?_
      exact W.retI X0 hx hlk Bd.returns (hb hby d2_14) (by show Q2 Z xi xa xb xc h0 n0 _ s₁.heap _; rw [e0]; exact ⟨by unfold own_pick; simp [c1, c8], N0, rfl⟩) (by decide) (by decide)
    · refine W.s1 (mkF m 12 #[.val (.int xi), .val (.int xa), .val (.int xb), .val (.int xc)] [(.int xb)]) (fun _ kx_ => XS.iloadN X0.here hx rfl (hb hby d2_11) rfl kx_) ?_
      exact W.retI X0 hx hlk Bd.returns (hb hby d2_12) (by show Q2 Z xi xa xb xc h0 n0 _ s₁.heap _; rw [e0]; exact ⟨by unfold own_pick; simp [c1, c8], N0, rfl⟩) (by decide) (by decide)
  · refine W.s1 (mkF m 5 #[.val (.int xi), .val (.int xa), .val (.int xb), .val (.int xc)] [(.int xa)]) (fun _ kx_ => XS.iloadN X0.here hx rfl (hb hby d2_4) rfl kx_) ?_
    exact W.retI X0 hx hlk Bd.returns (hb hby d2_5) (by show Q2 Z xi xa xb xc h0 n0 _ s₁.heap _; rw [e0]; exact ⟨by unfold own_pick; simp [c1], N0, rfl⟩) (by decide) (by decide)
theorem pn_1 : plainName "com/example/vertumnus/vertumnus/engine/Symmetry" = true := by first | (simp [plainName, overriddenIn]; done) | decide +kernel
theorem ef_1 (m : MethodId) (x0 : Addr) (x1 : Addr) : entryFrame m #[(.ref x0), (.ref x1)] 4 = mkF m 0 #[.val (.ref x0), .val (.ref x1), .unset, .unset] [] := by first | (simp [entryFrame, mkF, argsToLocals, Value.category]; done) | rfl
theorem d1_0 : decode prog_49_method_4_code 0 = .ok (.aload_n 0, 1) := by decide +kernel
theorem d1_1 : decode prog_49_method_4_code 1 = .ok (.arraylength, 1) := by decide +kernel
theorem d1_2 : decode prog_49_method_4_code 2 = .ok (.newarray .int, 2) := by decide +kernel
theorem d1_4 : decode prog_49_method_4_code 4 = .ok (.astore_n 2, 1) := by decide +kernel
theorem d1_5 : decode prog_49_method_4_code 5 = .ok (.iconst 0, 1) := by decide +kernel
theorem d1_6 : decode prog_49_method_4_code 6 = .ok (.istore_n 3, 1) := by decide +kernel
theorem d1_7 : decode prog_49_method_4_code 7 = .ok (.iload_n 3, 1) := by decide +kernel
theorem d1_8 : decode prog_49_method_4_code 8 = .ok (.aload_n 2, 1) := by decide +kernel
theorem d1_9 : decode prog_49_method_4_code 9 = .ok (.arraylength, 1) := by decide +kernel
theorem d1_10 : decode prog_49_method_4_code 10 = .ok (.if_icmp .ge 17, 3) := by decide +kernel
theorem d1_27 : decode prog_49_method_4_code 27 = .ok (.aload_n 2, 1) := by decide +kernel
theorem d1_28 : decode prog_49_method_4_code 28 = .ok (.areturn, 1) := by decide +kernel
theorem d1_13 : decode prog_49_method_4_code 13 = .ok (.aload_n 2, 1) := by decide +kernel
theorem d1_14 : decode prog_49_method_4_code 14 = .ok (.iload_n 3, 1) := by decide +kernel
theorem d1_15 : decode prog_49_method_4_code 15 = .ok (.aload_n 0, 1) := by decide +kernel
theorem d1_16 : decode prog_49_method_4_code 16 = .ok (.aload_n 1, 1) := by decide +kernel
theorem d1_17 : decode prog_49_method_4_code 17 = .ok (.iload_n 3, 1) := by decide +kernel
theorem d1_18 : decode prog_49_method_4_code 18 = .ok (.iaload, 1) := by decide +kernel
theorem d1_19 : decode prog_49_method_4_code 19 = .ok (.iaload, 1) := by decide +kernel
theorem d1_20 : decode prog_49_method_4_code 20 = .ok (.iastore, 1) := by decide +kernel
theorem d1_21 : decode prog_49_method_4_code 21 = .ok (.iinc 3 1, 3) := by decide +kernel
theorem d1_24 : decode prog_49_method_4_code 24 = .ok (.goto (-17), 3) := by decide +kernel
def Q1 (Z : State) (ao : Addr) (ar : Addr) (n : Nat) (xz : Int32) (fo : Nat → Int32) (fr : Nat → Int32) (h0 : Heap) (n0 : Nat) (v : Option Value) (h : Heap) (L : List Loc) : Prop := ∃ b : Addr, v = some (.ref b) ∧ Fr n0 L ∧ Keep h0 h [] ∧ h0.size ≤ b ∧ W.AI Z h b .int n (own_g fo fr)
set_option maxRecDepth 65536 in
set_option maxHeartbeats 40000000 in
theorem rm1 (l : Launch) (Z : State) (a0 : Array Value) (hw : ∀ d ∈ tables_1, d.before a0 Z = true) (ws : List Jvm.Cond) (ao : Addr) (ar : Addr) (n : Nat) (xz : Int32) (fo : Nat → Int32) (fr : Nat → Int32) (h0 : Heap) (n0 : Nat) (Z0 : n0 ≤ h0.size) (hz : xz.toInt = n) (h3 : n ≤ 3) (A0 : W.AI Z h0 ao .int n fo) (A1 : W.AI Z h0 ar .int n fr) (hr : ∀ k, k < n → ∃ j : Nat, (fr k).toInt = j ∧ j < n) :
    MetFree l (⟨"com/example/vertumnus/vertumnus/engine/Symmetry", "then", "([I[I)[I"⟩ : MethodName) (head1 (Jvm.Cond.code (⟨"com/example/vertumnus/vertumnus/engine/Symmetry", "then", "([I[I)[I"⟩ : MethodName) prog_49_method_4_code 4 (some (.array .int)) :: ws) ({ frames := 0, cells := 1, slots := 3, locals := 0 } : Room)) (fun a U => a = #[(.ref ao), (.ref ar)] ∧ Z.Warmed39 U.vm ∧ U.heap = h0) (fun _ _ _ _ _ => True) (fun _ U o U' => ∃ v L, o = .returned v ∧ Q1 Z ao ar n xz fo fr h0 n0 v U'.heap L ∧ FrameEnd U o U' L ({ frames := 0, cells := 1, slots := 3, locals := 0 } : Room).cells ({ frames := 0, cells := 1, slots := 3, locals := 0 } : Room).slots) := by
  refine MetFree.of_bodySF (plainFor_of_name pn_1) hisR ?_
  intro p e s m args below meth c s₁ Bd hml0 hP hK
  obtain ⟨rfl, hZ, hh⟩ := hP
  have hx := Bd.exec
  have hby := Bd.bytes
  have hml : c.maxLocals = 4 := hml0
  have hown : s.vm.findClass "com/example/vertumnus/vertumnus/engine/Symmetry" = some m.cls := findClass_of_methodNamed Bd.named
  have hnm := (name_of_methodNamed Bd.named Bd.method).1
  have hlk : meth.locks = false := BodyLoose.notSynchronized Bd
  have X0 : Stand p l e ({ frames := 0, cells := 1, slots := 3, locals := 0 } : Room) s m #[(.ref ao), (.ref ar)] below meth c s₁ [] 0 0 := Stand.of_body Bd
  have e0 : s₁.heap = h0 := by rw [← hh, Bd.state]; rfl
  have N0 := Fr.nil n0
  show W.Gl p e below s (Q1 Z ao ar n xz fo fr h0 n0) ({ frames := 0, cells := 1, slots := 3, locals := 0 } : Room).cells ({ frames := 0, cells := 1, slots := 3, locals := 0 } : Room).slots s₁ (entryFrame m #[(.ref ao), (.ref ar)] 4)
  refine W.cast (ef_1 m ao ar) ?_
  have K0 : Keep h0 h0 [] := Keep.refl h0 []
  refine W.s1 (mkF m 1 #[.val (.ref ao), .val (.ref ar), .unset, .unset] [(.ref ao)]) (fun _ kx_ => XS.aloadN X0.here hx rfl (hb hby d1_0) rfl rfl kx_) ?_
  refine W.alen X0 hx hZ e0 A0 (z := xz) hz (hb hby d1_1) (pc' := 2) rfl ?_
  refine W.newi X0 hx hZ (ty := .int) (aty := .int) (hw _ (List.mem_of_getElem? (i := 0) rfl)) rfl rfl e0 (hb hby d1_2) (n := n) hz (cap := 3) h3 (by decide) (by decide) (by decide) (pc' := 4) rfl (fun T101 h101 ab X101 e101 E101 g101 A101 => ?_)
  have ne102 : ao ≠ ab := Nat.ne_of_lt (Nat.lt_of_lt_of_le A0.lt (Nat.le_of_eq g101.symm))
  have ne103 : ar ≠ ab := Nat.ne_of_lt (Nat.lt_of_lt_of_le A1.lt (Nat.le_of_eq g101.symm))
  have ge101 : n0 ≤ ab := Nat.le_trans Z0 (Nat.le_of_eq g101.symm)
  have sz101 : h0.size ≤ ab := Nat.le_trans K0.1 (Nat.le_of_eq g101.symm)
  have Z101 : n0 ≤ h101.size := Nat.le_trans Z0 E101.1
  have K101 : Keep h0 h101 [] := K0.ext E101
  have f104 := A0.ext E101
  have f105 := A1.ext E101
  refine W.s1 (mkF m 5 #[.val (.ref ao), .val (.ref ar), .val (.ref ab), .unset] []) (fun _ kx_ => XS.astoreN X101.here hx rfl (hb hby d1_4) rfl rfl (l' := #[.val (.ref ao), .val (.ref ar), .val (.ref ab), .unset]) rfl kx_) ?_
  refine W.s1 (mkF m 6 #[.val (.ref ao), .val (.ref ar), .val (.ref ab), .unset] [(.int (0 : Int32))]) (fun _ kx_ => XS.iconst X101.here hx rfl (hb hby d1_5) kx_) ?_
  refine W.s1 (mkF m 7 #[.val (.ref ao), .val (.ref ar), .val (.ref ab), .val (.int (0 : Int32))] []) (fun _ kx_ => XS.istoreN X101.here hx rfl (hb hby d1_6) rfl (l' := #[.val (.ref ao), .val (.ref ar), .val (.ref ab), .val (.int (0 : Int32))]) rfl kx_) ?_
  have loop : ∀ (q j : Nat) (i : Int32) (T : State) (h : Heap) (Lc : List Loc) (f : Nat → Int32), q + j = n → i.toInt = j → Stand p l e ({ frames := 0, cells := 1, slots := 3, locals := 0 } : Room) s m #[(.ref ao), (.ref ar)] below meth c T Lc 1 3 → T.heap = h → Fr n0 Lc → n0 ≤ h.size → Keep h0 h [] → W.AI Z h ab .int n f → W.AI Z h ao .int n fo → W.AI Z h ar .int n fr → (∀ k, k < j → f k = own_g fo fr k) → W.Gl p e below s (Q1 Z ao ar n xz fo fr h0 n0) ({ frames := 0, cells := 1, slots := 3, locals := 0 } : Room).cells ({ frames := 0, cells := 1, slots := 3, locals := 0 } : Room).slots T (mkF m 7 #[.val (.ref ao), .val (.ref ar), .val (.ref ab), .val (.int i)] []) := by
    intro q
    induction q with
    | zero =>
      intro j i T h Lc f hq hi X e1 N Zh K Ab Ao Ar hf
      refine W.s1 (mkF m 8 #[.val (.ref ao), .val (.ref ar), .val (.ref ab), .val (.int i)] [(.int i)]) (fun _ kx_ => XS.iloadN X.here hx rfl (hb hby d1_7) rfl kx_) ?_
      refine W.s1 (mkF m 9 #[.val (.ref ao), .val (.ref ar), .val (.ref ab), .val (.int i)] [(.ref ab), (.int i)]) (fun _ kx_ => XS.aloadN X.here hx rfl (hb hby d1_8) rfl rfl kx_) ?_
      refine W.alen X hx hZ e1 Ab (z := xz) hz (hb hby d1_9) (pc' := 10) rfl ?_
      refine W.icmp X hx (hb hby d1_10) (pc' := 27) (pc'' := 13) (by decide) (by decide) rfl (fun (c10 : ¬ i < xz) => ?_) (fun (c10 : i < xz) => ?_)
      · refine W.s1 (mkF m 28 #[.val (.ref ao), .val (.ref ar), .val (.ref ab), .val (.int i)] [(.ref ab)]) (fun _ kx_ => XS.aloadN X.here hx rfl (hb hby d1_27) rfl rfl kx_) ?_
        exact W.retA X hx hlk Bd.returns rfl rfl rfl (hb hby d1_28) (by show Q1 Z ao ar n xz fo fr h0 n0 _ T.heap _; rw [e1]; exact ⟨_, rfl, N, K, sz101, Ab.congr fun k hk => (hf k (by omega)).symm⟩) (by decide) (by decide)
      · exact absurd c10 (by rw [Int32.lt_iff_toInt_lt]; omega)
    | succ q ih =>
      intro j i T h Lc f hq hi X e1 N Zh K Ab Ao Ar hf
      refine W.s1 (mkF m 8 #[.val (.ref ao), .val (.ref ar), .val (.ref ab), .val (.int i)] [(.int i)]) (fun _ kx_ => XS.iloadN X.here hx rfl (hb hby d1_7) rfl kx_) ?_
      refine W.s1 (mkF m 9 #[.val (.ref ao), .val (.ref ar), .val (.ref ab), .val (.int i)] [(.ref ab), (.int i)]) (fun _ kx_ => XS.aloadN X.here hx rfl (hb hby d1_8) rfl rfl kx_) ?_
      refine W.alen X hx hZ e1 Ab (z := xz) hz (hb hby d1_9) (pc' := 10) rfl ?_
      refine W.icmp X hx (hb hby d1_10) (pc' := 27) (pc'' := 13) (by decide) (by decide) rfl (fun (c10 : ¬ i < xz) => ?_) (fun (c10 : i < xz) => ?_)
      · exact absurd c10 (by rw [Int32.lt_iff_toInt_lt]; omega)
      · refine W.s1 (mkF m 14 #[.val (.ref ao), .val (.ref ar), .val (.ref ab), .val (.int i)] [(.ref ab)]) (fun _ kx_ => XS.aloadN X.here hx rfl (hb hby d1_13) rfl rfl kx_) ?_
        refine W.s1 (mkF m 15 #[.val (.ref ao), .val (.ref ar), .val (.ref ab), .val (.int i)] [(.int i), (.ref ab)]) (fun _ kx_ => XS.iloadN X.here hx rfl (hb hby d1_14) rfl kx_) ?_
        refine W.s1 (mkF m 16 #[.val (.ref ao), .val (.ref ar), .val (.ref ab), .val (.int i)] [(.ref ao), (.int i), (.ref ab)]) (fun _ kx_ => XS.aloadN X.here hx rfl (hb hby d1_15) rfl rfl kx_) ?_
        refine W.s1 (mkF m 17 #[.val (.ref ao), .val (.ref ar), .val (.ref ab), .val (.int i)] [(.ref ar), (.ref ao), (.int i), (.ref ab)]) (fun _ kx_ => XS.aloadN X.here hx rfl (hb hby d1_16) rfl rfl kx_) ?_
        refine W.s1 (mkF m 18 #[.val (.ref ao), .val (.ref ar), .val (.ref ab), .val (.int i)] [(.int i), (.ref ar), (.ref ao), (.int i), (.ref ab)]) (fun _ kx_ => XS.iloadN X.here hx rfl (hb hby d1_17) rfl kx_) ?_
        have hjn : j < n := by rw [Int32.lt_iff_toInt_lt] at c10; omega
        refine W.ldi X hx hZ e1 Ar j hi hjn (hb hby d1_18) (pc' := 19) rfl ?_
        obtain ⟨j2, hj2, hj2n⟩ := hr j hjn
        refine W.ldi X hx hZ e1 Ao j2 hj2 hj2n (hb hby d1_19) (pc' := 20) rfl ?_
        refine W.sti X hx hZ e1 Ab j hi hjn N ge101 (hb hby d1_20) (pc' := 21) rfl (fun T106 h106 L106 X106 e106 W106 fw106 N106 => ?_)
        have Z106 : n0 ≤ h106.size := Nat.le_trans Zh (Keep.of_wr W106).1
        have f107 := Ao.other W106 ne102
        have f108 := Ar.other W106 ne103
        have K106 : Keep h0 h106 [] := K.wr W106 (Or.inr sz101)
        refine W.s1 (mkF m 24 #[.val (.ref ao), .val (.ref ar), .val (.ref ab), .val (.int (i + (1 : Int32)))] []) (fun _ kx_ => XS.iinc X106.here hx rfl (hb hby d1_21) rfl (l' := #[.val (.ref ao), .val (.ref ar), .val (.ref ab), .val (.int (i + (1 : Int32)))]) rfl kx_) ?_
        refine W.s1 (mkF m 7 #[.val (.ref ao), .val (.ref ar), .val (.ref ab), .val (.int (i + (1 : Int32)))] []) (fun _ kx_ => XS.goto X106.here hx rfl (pc0 := 24) (pc' := 7) rfl (hb hby d1_24) (by decide) (by decide) kx_) ?_
        have hi' : (i + (1 : Int32)).toInt = ((j + 1 : Nat) : Int) := by have := c_iadd i 1; have := rng32 (i + (1 : Int32)); have e1 : (1 : Int32).toInt = 1 := rfl; omega
        exact ih (j + 1) _ _ _ _ _ (by omega) hi' X106 e106 N106 Z106 K106 fw106 f107 f108 (fun k hk => by
          by_cases ek : k = j
          · rw [ek, W.up_same]; unfold own_g; rw [hj2]; rfl
          · rw [W.up_other _ _ ek]; exact hf k (by omega))
  exact loop n 0 _ _ _ _ _ (by omega) rfl X101 e101 N0 Z101 K101 A101 f104 f105 (fun k hk => absurd hk (by omega))
theorem ef_0 (m : MethodId) (x0 : Int32) (x1 : Int32) (x2 : Int32) (x3 : Int32) (x4 : Int32) : entryFrame m #[(.int x0), (.int x1), (.int x2), (.int x3), (.int x4)] maxLocals = mkF m 0 #[.val (.int x0), .val (.int x1), .val (.int x2), .val (.int x3), .val (.int x4), .unset, .unset, .unset, .unset, .unset, .unset, .unset, .unset, .unset] [] := by first | (simp [entryFrame, mkF, argsToLocals, Value.category, maxLocals]; done) | rfl
theorem pd_0 : parseMethodDescriptor "([I[I)[I" = some ⟨[(.array .int), (.array .int)], some (.array .int)⟩ := by decide +kernel
theorem pd_1 : parseMethodDescriptor "(IIII)I" = some ⟨[.int, .int, .int, .int], some .int⟩ := by decide +kernel
def Q0 (Z : State) (x0 : Int32) (xa : Int32) (xb : Int32) (xc : Int32) (xk : Int32) (h0 : Heap) (n0 : Nat) (v : Option Value) (h : Heap) (L : List Loc) : Prop := v = some (.int 1) ∧ Fr n0 L
set_option maxRecDepth 65536 in
set_option maxHeartbeats 40000000 in
theorem rm0 (l : Launch) (Z : State) (a0 : Array Value) (hw : ∀ d ∈ tables_1, d.before a0 Z = true) (ws : List Jvm.Cond) (x0 : Int32) (xa : Int32) (xb : Int32) (xc : Int32) (xk : Int32) (h0 : Heap) (n0 : Nat) (Z0 : n0 ≤ h0.size) :
    MetFree l x (head1 (Jvm.Cond.code x code maxLocals ret :: ws) room_1) (fun a U => a = #[(.int x0), (.int xa), (.int xb), (.int xc), (.int xk)] ∧ Z.Warmed39 U.vm ∧ U.heap = h0) (fun _ _ _ _ _ => True) (fun _ U o U' => ∃ v L, o = .returned v ∧ Q0 Z x0 xa xb xc xk h0 n0 v U'.heap L ∧ FrameEnd U o U' L 16 128) := by
  refine MetFree.of_bodySF (plainFor_of_name pn_0) hisR ?_
  intro p e s m args below meth c s₁ Bd hml0 hP hK
  obtain ⟨rfl, hZ, hh⟩ := hP
  have hx := Bd.exec
  have hby := Bd.bytes
  have hml : c.maxLocals = 14 := hml0
  have hown : s.vm.findClass "com/example/vertumnus/vertumnus/engine/SymmetryThenPinLaw" = some m.cls := findClass_of_methodNamed Bd.named
  have hnm := (name_of_methodNamed Bd.named Bd.method).1
  have hlk : meth.locks = false := BodyLoose.notSynchronized Bd
  have X0 : Stand p l e room_1 s m #[(.int x0), (.int xa), (.int xb), (.int xc), (.int xk)] below meth c s₁ [] 0 0 := Stand.of_body Bd
  have e0 : s₁.heap = h0 := by rw [← hh, Bd.state]; rfl
  have N0 := Fr.nil n0
  show W.Gl p e below s (Q0 Z x0 xa xb xc xk h0 n0) 16 128 s₁ (entryFrame m #[(.int x0), (.int xa), (.int xb), (.int xc), (.int xk)] maxLocals)
  refine W.cast (ef_0 m x0 xa xb xc xk) ?_
  refine W.s1 (mkF m 1 #[.val (.int x0), .val (.int xa), .val (.int xb), .val (.int xc), .val (.int xk), .unset, .unset, .unset, .unset, .unset, .unset, .unset, .unset, .unset] [(.int x0)]) (fun _ kx_ => XS.iloadN X0.here hx rfl (hb hby at_0) rfl kx_) ?_
  refine W.s1 (mkF m 2 #[.val (.int x0), .val (.int xa), .val (.int xb), .val (.int xc), .val (.int xk), .unset, .unset, .unset, .unset, .unset, .unset, .unset, .unset, .unset] [(.int (3 : Int32)), (.int x0)]) (fun _ kx_ => XS.iconst X0.here hx rfl (hb hby at_1) kx_) ?_
  refine W.s1 (mkF m 3 #[.val (.int x0), .val (.int xa), .val (.int xb), .val (.int xc), .val (.int xk), .unset, .unset, .unset, .unset, .unset, .unset, .unset, .unset, .unset] [(.int (x0 &&& (3 : Int32)))]) (fun _ kx_ => XS.iand X0.here hx rfl (hb hby at_2) rfl kx_) ?_
  generalize hg_xn : (x0 &&& (3 : Int32)) = xn
  refine W.s1 (mkF m 5 #[.val (.int x0), .val (.int xa), .val (.int xb), .val (.int xc), .val (.int xk), .val (.int xn), .unset, .unset, .unset, .unset, .unset, .unset, .unset, .unset] []) (fun _ kx_ => XS.istore X0.here hx rfl (hb hby at_3) rfl (l' := #[.val (.int x0), .val (.int xa), .val (.int xb), .val (.int xc), .val (.int xk), .val (.int xn), .unset, .unset, .unset, .unset, .unset, .unset, .unset, .unset]) rfl kx_) ?_
  have hcase := own_n hg_xn
  rcases hcase with rfl | rfl | rfl | rfl
  · refine W.s1 (mkF m 7 #[.val (.int x0), .val (.int xa), .val (.int xb), .val (.int xc), .val (.int xk), .val (.int (0 : Int32)), .unset, .unset, .unset, .unset, .unset, .unset, .unset, .unset] [(.int (0 : Int32))]) (fun _ kx_ => XS.iload X0.here hx rfl (hb hby at_5) rfl kx_) ?_
    refine W.ifc X0 hx (hb hby at_7) (pc' := 14) (pc'' := 10) (by decide) (by decide) rfl (fun (c7 : ¬ (0 : Int32) = (0 : Int32)) => ?_) (fun (c7 : (0 : Int32) = (0 : Int32)) => ?_)
    · exact absurd c7 (by decide)
    · refine W.s1 (mkF m 11 #[.val (.int x0), .val (.int xa), .val (.int xb), .val (.int xc), .val (.int xk), .val (.int (0 : Int32)), .unset, .unset, .unset, .unset, .unset, .unset, .unset, .unset] [(.int (1 : Int32))]) (fun _ kx_ => XS.iconst X0.here hx rfl (hb hby at_10) kx_) ?_
      refine W.s1 (mkF m 16 #[.val (.int x0), .val (.int xa), .val (.int xb), .val (.int xc), .val (.int xk), .val (.int (0 : Int32)), .unset, .unset, .unset, .unset, .unset, .unset, .unset, .unset] [(.int (1 : Int32))]) (fun _ kx_ => XS.goto X0.here hx rfl (pc0 := 11) (pc' := 16) rfl (hb hby at_11) (by decide) (by decide) kx_) ?_
      refine W.s1 (mkF m 18 #[.val (.int x0), .val (.int xa), .val (.int xb), .val (.int xc), .val (.int xk), .val (.int (0 : Int32)), .val (.int (1 : Int32)), .unset, .unset, .unset, .unset, .unset, .unset, .unset] []) (fun _ kx_ => XS.istore X0.here hx rfl (hb hby at_16) rfl (l' := #[.val (.int x0), .val (.int xa), .val (.int xb), .val (.int xc), .val (.int xk), .val (.int (0 : Int32)), .val (.int (1 : Int32)), .unset, .unset, .unset, .unset, .unset, .unset, .unset]) rfl kx_) ?_
      refine W.s1 (mkF m 20 #[.val (.int x0), .val (.int xa), .val (.int xb), .val (.int xc), .val (.int xk), .val (.int (0 : Int32)), .val (.int (1 : Int32)), .unset, .unset, .unset, .unset, .unset, .unset, .unset] [(.int xk)]) (fun _ kx_ => XS.iload X0.here hx rfl (hb hby at_18) rfl kx_) ?_
      refine W.s1 (mkF m 21 #[.val (.int x0), .val (.int xa), .val (.int xb), .val (.int xc), .val (.int xk), .val (.int (0 : Int32)), .val (.int (1 : Int32)), .unset, .unset, .unset, .unset, .unset, .unset, .unset] [(.int (3 : Int32)), (.int xk)]) (fun _ kx_ => XS.iconst X0.here hx rfl (hb hby at_20) kx_) ?_
      refine W.s1 (mkF m 22 #[.val (.int x0), .val (.int xa), .val (.int xb), .val (.int xc), .val (.int xk), .val (.int (0 : Int32)), .val (.int (1 : Int32)), .unset, .unset, .unset, .unset, .unset, .unset, .unset] [(.int (xk &&& (3 : Int32)))]) (fun _ kx_ => XS.iand X0.here hx rfl (hb hby at_21) rfl kx_) ?_
      refine W.s1 (mkF m 24 #[.val (.int x0), .val (.int xa), .val (.int xb), .val (.int xc), .val (.int xk), .val (.int (0 : Int32)), .val (.int (1 : Int32)), .unset, .unset, .unset, .unset, .unset, .unset, .unset] [(.int (1 : Int32)), (.int (xk &&& (3 : Int32)))]) (fun _ kx_ => XS.iload X0.here hx rfl (hb hby at_22) rfl kx_) ?_
      refine W.s1 (mkF m 25 #[.val (.int x0), .val (.int xa), .val (.int xb), .val (.int xc), .val (.int xk), .val (.int (0 : Int32)), .val (.int (1 : Int32)), .unset, .unset, .unset, .unset, .unset, .unset, .unset] [(.int ((xk &&& (3 : Int32)) % (1 : Int32)))]) (fun _ kx_ => iremM X0 hx rfl (hb hby at_24) rfl (by decide) kx_) ?_
      generalize hg_o0 : ((xk &&& (3 : Int32)) % (1 : Int32)) = o0
      refine W.s1 (mkF m 27 #[.val (.int x0), .val (.int xa), .val (.int xb), .val (.int xc), .val (.int xk), .val (.int (0 : Int32)), .val (.int (1 : Int32)), .val (.int o0), .unset, .unset, .unset, .unset, .unset, .unset] []) (fun _ kx_ => XS.istore X0.here hx rfl (hb hby at_25) rfl (l' := #[.val (.int x0), .val (.int xa), .val (.int xb), .val (.int xc), .val (.int xk), .val (.int (0 : Int32)), .val (.int (1 : Int32)), .val (.int o0), .unset, .unset, .unset, .unset, .unset, .unset]) rfl kx_) ?_
      refine W.s1 (mkF m 29 #[.val (.int x0), .val (.int xa), .val (.int xb), .val (.int xc), .val (.int xk), .val (.int (0 : Int32)), .val (.int (1 : Int32)), .val (.int o0), .unset, .unset, .unset, .unset, .unset, .unset] [(.int xk)]) (fun _ kx_ => XS.iload X0.here hx rfl (hb hby at_27) rfl kx_) ?_
      refine W.s1 (mkF m 30 #[.val (.int x0), .val (.int xa), .val (.int xb), .val (.int xc), .val (.int xk), .val (.int (0 : Int32)), .val (.int (1 : Int32)), .val (.int o0), .unset, .unset, .unset, .unset, .unset, .unset] [(.int (2 : Int32)), (.int xk)]) (fun _ kx_ => XS.iconst X0.here hx rfl (hb hby at_29) kx_) ?_
      refine W.s1 (mkF m 31 #[.val (.int x0), .val (.int xa), .val (.int xb), .val (.int xc), .val (.int xk), .val (.int (0 : Int32)), .val (.int (1 : Int32)), .val (.int o0), .unset, .unset, .unset, .unset, .unset, .unset] [(.int ((xk.toUInt32 >>> ((2 : Int32) &&& 31).toUInt32).toInt32))]) (fun _ kx_ => XS.iushr X0.here hx rfl (hb hby at_30) rfl kx_) ?_
      refine W.s1 (mkF m 32 #[.val (.int x0), .val (.int xa), .val (.int xb), .val (.int xc), .val (.int xk), .val (.int (0 : Int32)), .val (.int (1 : Int32)), .val (.int o0), .unset, .unset, .unset, .unset, .unset, .unset] [(.int (3 : Int32)), (.int ((xk.toUInt32 >>> ((2 : Int32) &&& 31).toUInt32).toInt32))]) (fun _ kx_ => XS.iconst X0.here hx rfl (hb hby at_31) kx_) ?_
      refine W.s1 (mkF m 33 #[.val (.int x0), .val (.int xa), .val (.int xb), .val (.int xc), .val (.int xk), .val (.int (0 : Int32)), .val (.int (1 : Int32)), .val (.int o0), .unset, .unset, .unset, .unset, .unset, .unset] [(.int (((xk.toUInt32 >>> ((2 : Int32) &&& 31).toUInt32).toInt32) &&& (3 : Int32)))]) (fun _ kx_ => XS.iand X0.here hx rfl (hb hby at_32) rfl kx_) ?_
      refine W.s1 (mkF m 35 #[.val (.int x0), .val (.int xa), .val (.int xb), .val (.int xc), .val (.int xk), .val (.int (0 : Int32)), .val (.int (1 : Int32)), .val (.int o0), .unset, .unset, .unset, .unset, .unset, .unset] [(.int (1 : Int32)), (.int (((xk.toUInt32 >>> ((2 : Int32) &&& 31).toUInt32).toInt32) &&& (3 : Int32)))]) (fun _ kx_ => XS.iload X0.here hx rfl (hb hby at_33) rfl kx_) ?_
      refine W.s1 (mkF m 36 #[.val (.int x0), .val (.int xa), .val (.int xb), .val (.int xc), .val (.int xk), .val (.int (0 : Int32)), .val (.int (1 : Int32)), .val (.int o0), .unset, .unset, .unset, .unset, .unset, .unset] [(.int ((((xk.toUInt32 >>> ((2 : Int32) &&& 31).toUInt32).toInt32) &&& (3 : Int32)) % (1 : Int32)))]) (fun _ kx_ => iremM X0 hx rfl (hb hby at_35) rfl (by decide) kx_) ?_
      generalize hg_o1 : ((((xk.toUInt32 >>> ((2 : Int32) &&& 31).toUInt32).toInt32) &&& (3 : Int32)) % (1 : Int32)) = o1
      refine W.s1 (mkF m 38 #[.val (.int x0), .val (.int xa), .val (.int xb), .val (.int xc), .val (.int xk), .val (.int (0 : Int32)), .val (.int (1 : Int32)), .val (.int o0), .val (.int o1), .unset, .unset, .unset, .unset, .unset] []) (fun _ kx_ => XS.istore X0.here hx rfl (hb hby at_36) rfl (l' := #[.val (.int x0), .val (.int xa), .val (.int xb), .val (.int xc), .val (.int xk), .val (.int (0 : Int32)), .val (.int (1 : Int32)), .val (.int o0), .val (.int o1), .unset, .unset, .unset, .unset, .unset]) rfl kx_) ?_
      refine W.s1 (mkF m 40 #[.val (.int x0), .val (.int xa), .val (.int xb), .val (.int xc), .val (.int xk), .val (.int (0 : Int32)), .val (.int (1 : Int32)), .val (.int o0), .val (.int o1), .unset, .unset, .unset, .unset, .unset] [(.int xk)]) (fun _ kx_ => XS.iload X0.here hx rfl (hb hby at_38) rfl kx_) ?_
      refine W.s1 (mkF m 41 #[.val (.int x0), .val (.int xa), .val (.int xb), .val (.int xc), .val (.int xk), .val (.int (0 : Int32)), .val (.int (1 : Int32)), .val (.int o0), .val (.int o1), .unset, .unset, .unset, .unset, .unset] [(.int (4 : Int32)), (.int xk)]) (fun _ kx_ => XS.iconst X0.here hx rfl (hb hby at_40) kx_) ?_
      refine W.s1 (mkF m 42 #[.val (.int x0), .val (.int xa), .val (.int xb), .val (.int xc), .val (.int xk), .val (.int (0 : Int32)), .val (.int (1 : Int32)), .val (.int o0), .val (.int o1), .unset, .unset, .unset, .unset, .unset] [(.int ((xk.toUInt32 >>> ((4 : Int32) &&& 31).toUInt32).toInt32))]) (fun _ kx_ => XS.iushr X0.here hx rfl (hb hby at_41) rfl kx_) ?_
      refine W.s1 (mkF m 43 #[.val (.int x0), .val (.int xa), .val (.int xb), .val (.int xc), .val (.int xk), .val (.int (0 : Int32)), .val (.int (1 : Int32)), .val (.int o0), .val (.int o1), .unset, .unset, .unset, .unset, .unset] [(.int (3 : Int32)), (.int ((xk.toUInt32 >>> ((4 : Int32) &&& 31).toUInt32).toInt32))]) (fun _ kx_ => XS.iconst X0.here hx rfl (hb hby at_42) kx_) ?_
      refine W.s1 (mkF m 44 #[.val (.int x0), .val (.int xa), .val (.int xb), .val (.int xc), .val (.int xk), .val (.int (0 : Int32)), .val (.int (1 : Int32)), .val (.int o0), .val (.int o1), .unset, .unset, .unset, .unset, .unset] [(.int (((xk.toUInt32 >>> ((4 : Int32) &&& 31).toUInt32).toInt32) &&& (3 : Int32)))]) (fun _ kx_ => XS.iand X0.here hx rfl (hb hby at_43) rfl kx_) ?_
      refine W.s1 (mkF m 46 #[.val (.int x0), .val (.int xa), .val (.int xb), .val (.int xc), .val (.int xk), .val (.int (0 : Int32)), .val (.int (1 : Int32)), .val (.int o0), .val (.int o1), .unset, .unset, .unset, .unset, .unset] [(.int (1 : Int32)), (.int (((xk.toUInt32 >>> ((4 : Int32) &&& 31).toUInt32).toInt32) &&& (3 : Int32)))]) (fun _ kx_ => XS.iload X0.here hx rfl (hb hby at_44) rfl kx_) ?_
      refine W.s1 (mkF m 47 #[.val (.int x0), .val (.int xa), .val (.int xb), .val (.int xc), .val (.int xk), .val (.int (0 : Int32)), .val (.int (1 : Int32)), .val (.int o0), .val (.int o1), .unset, .unset, .unset, .unset, .unset] [(.int ((((xk.toUInt32 >>> ((4 : Int32) &&& 31).toUInt32).toInt32) &&& (3 : Int32)) % (1 : Int32)))]) (fun _ kx_ => iremM X0 hx rfl (hb hby at_46) rfl (by decide) kx_) ?_
      generalize hg_o2 : ((((xk.toUInt32 >>> ((4 : Int32) &&& 31).toUInt32).toInt32) &&& (3 : Int32)) % (1 : Int32)) = o2
      refine W.s1 (mkF m 49 #[.val (.int x0), .val (.int xa), .val (.int xb), .val (.int xc), .val (.int xk), .val (.int (0 : Int32)), .val (.int (1 : Int32)), .val (.int o0), .val (.int o1), .val (.int o2), .unset, .unset, .unset, .unset] []) (fun _ kx_ => XS.istore X0.here hx rfl (hb hby at_47) rfl (l' := #[.val (.int x0), .val (.int xa), .val (.int xb), .val (.int xc), .val (.int xk), .val (.int (0 : Int32)), .val (.int (1 : Int32)), .val (.int o0), .val (.int o1), .val (.int o2), .unset, .unset, .unset, .unset]) rfl kx_) ?_
      obtain ⟨k0, hk0, hl0⟩ : ∃ k : Nat, o0.toInt = k ∧ k < 1 := by rw [← hg_o0]; exact own_o _ 1 1 rfl (by decide)
      obtain ⟨k1, hk1, hl1⟩ : ∃ k : Nat, o1.toInt = k ∧ k < 1 := by rw [← hg_o1]; exact own_o _ 1 1 rfl (by decide)
      obtain ⟨k2, hk2, hl2⟩ : ∃ k : Nat, o2.toInt = k ∧ k < 1 := by rw [← hg_o2]; exact own_o _ 1 1 rfl (by decide)
      refine W.s1 (mkF m 51 #[.val (.int x0), .val (.int xa), .val (.int xb), .val (.int xc), .val (.int xk), .val (.int (0 : Int32)), .val (.int (1 : Int32)), .val (.int o0), .val (.int o1), .val (.int o2), .unset, .unset, .unset, .unset] [(.int (0 : Int32))]) (fun _ kx_ => XS.iload X0.here hx rfl (hb hby at_49) rfl kx_) ?_
      refine W.newi X0 hx hZ (ty := .int) (aty := .int) (hw _ (List.mem_of_getElem? (i := 0) rfl)) rfl rfl e0 (hb hby at_51) (n := 0) rfl (cap := 0) (Nat.le_refl _) (by decide) (by decide) (by decide) (pc' := 53) rfl (fun T101 h101 b101 X101 e101 E101 g101 A101 => ?_)
      have ge101 : n0 ≤ b101 := Nat.le_trans Z0 (Nat.le_of_eq g101.symm)
      have Z101 : n0 ≤ h101.size := Nat.le_trans Z0 E101.1
      refine W.s1 (mkF m 55 #[.val (.int x0), .val (.int xa), .val (.int xb), .val (.int xc), .val (.int xk), .val (.int (0 : Int32)), .val (.int (1 : Int32)), .val (.int o0), .val (.int o1), .val (.int o2), .val (.ref b101), .unset, .unset, .unset] []) (fun _ kx_ => XS.astore X101.here hx rfl (hb hby at_53) rfl rfl (l' := #[.val (.int x0), .val (.int xa), .val (.int xb), .val (.int xc), .val (.int xk), .val (.int (0 : Int32)), .val (.int (1 : Int32)), .val (.int o0), .val (.int o1), .val (.int o2), .val (.ref b101), .unset, .unset, .unset]) rfl kx_) ?_
      refine W.s1 (mkF m 57 #[.val (.int x0), .val (.int xa), .val (.int xb), .val (.int xc), .val (.int xk), .val (.int (0 : Int32)), .val (.int (1 : Int32)), .val (.int o0), .val (.int o1), .val (.int o2), .val (.ref b101), .unset, .unset, .unset] [(.int (0 : Int32))]) (fun _ kx_ => XS.iload X101.here hx rfl (hb hby at_55) rfl kx_) ?_
      refine W.newi X101 hx hZ (ty := .int) (aty := .int) (hw _ (List.mem_of_getElem? (i := 0) rfl)) rfl rfl e101 (hb hby at_57) (n := 0) rfl (cap := 0) (Nat.le_refl _) (by decide) (by decide) (by decide) (pc' := 59) rfl (fun T102 h102 b102 X102 e102 E102 g102 A102 => ?_)
      have ne103 : b101 ≠ b102 := Nat.ne_of_lt (Nat.lt_of_lt_of_le A101.lt (Nat.le_of_eq g102.symm))
      have ge102 : n0 ≤ b102 := Nat.le_trans Z101 (Nat.le_of_eq g102.symm)
      have Z102 : n0 ≤ h102.size := Nat.le_trans Z101 E102.1
      have f104 := A101.ext E102
      refine W.s1 (mkF m 61 #[.val (.int x0), .val (.int xa), .val (.int xb), .val (.int xc), .val (.int xk), .val (.int (0 : Int32)), .val (.int (1 : Int32)), .val (.int o0), .val (.int o1), .val (.int o2), .val (.ref b101), .val (.ref b102), .unset, .unset] []) (fun _ kx_ => XS.astore X102.here hx rfl (hb hby at_59) rfl rfl (l' := #[.val (.int x0), .val (.int xa), .val (.int xb), .val (.int xc), .val (.int xk), .val (.int (0 : Int32)), .val (.int (1 : Int32)), .val (.int o0), .val (.int o1), .val (.int o2), .val (.ref b101), .val (.ref b102), .unset, .unset]) rfl kx_) ?_
      refine W.s1 (mkF m 63 #[.val (.int x0), .val (.int xa), .val (.int xb), .val (.int xc), .val (.int xk), .val (.int (0 : Int32)), .val (.int (1 : Int32)), .val (.int o0), .val (.int o1), .val (.int o2), .val (.ref b101), .val (.ref b102), .unset, .unset] [(.int (0 : Int32))]) (fun _ kx_ => XS.iload X102.here hx rfl (hb hby at_61) rfl kx_) ?_
      refine W.ifc X102 hx (hb hby at_63) (pc' := 77) (pc'' := 66) (by decide) (by decide) rfl (fun (c63 : ¬ (0 : Int32) < (0 : Int32)) => ?_) (fun (c63 : (0 : Int32) < (0 : Int32)) => ?_)
      · refine W.s1 (mkF m 79 #[.val (.int x0), .val (.int xa), .val (.int xb), .val (.int xc), .val (.int xk), .val (.int (0 : Int32)), .val (.int (1 : Int32)), .val (.int o0), .val (.int o1), .val (.int o2), .val (.ref b101), .val (.ref b102), .unset, .unset] [(.int (0 : Int32))]) (fun _ kx_ => XS.iload X102.here hx rfl (hb hby at_77) rfl kx_) ?_
        refine W.s1 (mkF m 80 #[.val (.int x0), .val (.int xa), .val (.int xb), .val (.int xc), .val (.int xk), .val (.int (0 : Int32)), .val (.int (1 : Int32)), .val (.int o0), .val (.int o1), .val (.int o2), .val (.ref b101), .val (.ref b102), .unset, .unset] [(.int (1 : Int32)), (.int (0 : Int32))]) (fun _ kx_ => XS.iconst X102.here hx rfl (hb hby at_79) kx_) ?_
        refine W.icmp X102 hx (hb hby at_80) (pc' := 94) (pc'' := 83) (by decide) (by decide) rfl (fun (c80 : ¬ (1 : Int32) < (0 : Int32)) => ?_) (fun (c80 : (1 : Int32) < (0 : Int32)) => ?_)
        · refine W.s1 (mkF m 96 #[.val (.int x0), .val (.int xa), .val (.int xb), .val (.int xc), .val (.int xk), .val (.int (0 : Int32)), .val (.int (1 : Int32)), .val (.int o0), .val (.int o1), .val (.int o2), .val (.ref b101), .val (.ref b102), .unset, .unset] [(.int (0 : Int32))]) (fun _ kx_ => XS.iload X102.here hx rfl (hb hby at_94) rfl kx_) ?_
          refine W.s1 (mkF m 97 #[.val (.int x0), .val (.int xa), .val (.int xb), .val (.int xc), .val (.int xk), .val (.int (0 : Int32)), .val (.int (1 : Int32)), .val (.int o0), .val (.int o1), .val (.int o2), .val (.ref b101), .val (.ref b102), .unset, .unset] [(.int (2 : Int32)), (.int (0 : Int32))]) (fun _ kx_ => XS.iconst X102.here hx rfl (hb hby at_96) kx_) ?_
          refine W.icmp X102 hx (hb hby at_97) (pc' := 111) (pc'' := 100) (by decide) (by decide) rfl (fun (c97 : ¬ (2 : Int32) < (0 : Int32)) => ?_) (fun (c97 : (2 : Int32) < (0 : Int32)) => ?_)
          · refine W.s1 (mkF m 113 #[.val (.int x0), .val (.int xa), .val (.int xb), .val (.int xc), .val (.int xk), .val (.int (0 : Int32)), .val (.int (1 : Int32)), .val (.int o0), .val (.int o1), .val (.int o2), .val (.ref b101), .val (.ref b102), .unset, .unset] [(.ref b101)]) (fun _ kx_ => XS.aload X102.here hx rfl (hb hby at_111) rfl rfl kx_) ?_
            refine W.s1 (mkF m 115 #[.val (.int x0), .val (.int xa), .val (.int xb), .val (.int xc), .val (.int xk), .val (.int (0 : Int32)), .val (.int (1 : Int32)), .val (.int o0), .val (.int o1), .val (.int o2), .val (.ref b101), .val (.ref b102), .unset, .unset] [(.ref b102), (.ref b101)]) (fun _ kx_ => XS.aload X102.here hx rfl (hb hby at_113) rfl rfl kx_) ?_
            obtain ⟨_, _, ⟨T105, L105, k105, n105⟩, -, X105, ⟨Lc105, hQ105, l105, y105, z105⟩, st105⟩ := Jvm.LawKit.callS X102 hx (y := (⟨"com/example/vertumnus/vertumnus/engine/Symmetry", "then", "([I[I)[I"⟩ : MethodName)) hown (mvT hZ (hw _ (List.mem_of_getElem? (i := 1) rfl))) (mvT hZ (hw _ (List.mem_of_getElem? (i := 2) rfl))) (mvT hZ (hw _ (List.mem_of_getElem? (i := 3) rfl))) (mvT hZ (hw _ (List.mem_of_getElem? (i := 4) rfl))) (by decide) (backOf (W := 0) (rm1 l Z a0 hw [] b101 b102 0 (0 : Int32) (fun _ => 0) (fun _ => 0) h102 n0 Z102 rfl (by decide) f104 A102 (fun k hk => by omega)) hZ (hw _ (List.mem_of_getElem? (i := 4) rfl)) (hw _ (List.mem_of_getElem? (i := 3) rfl)) (by decide) (by decide)) (g := (mkF m 115 #[.val (.int x0), .val (.int xa), .val (.int xb), .val (.int xc), .val (.int xk), .val (.int (0 : Int32)), .val (.int (1 : Int32)), .val (.int o0), .val (.int o1), .val (.int o2), .val (.ref b101), .val (.ref b102), .unset, .unset] [(.ref b102), (.ref b101)])) rfl (by rw [hml]; rfl) (argsL := [(.ref b101), (.ref b102)]) (rest := []) (lenOf pd_0 rfl) rfl (by show 2 * 0 + _ ≤ _; exact Nat.le_of_eq rfl) (hb hby at_115) (fun _ _ => ⟨rfl, e102, (by decide : 2 + 1 ≤ _), (by decide : 0 + 3 ≤ _)⟩)
            dsimp only [Pt.U, Pt.locs, Pt.cells, Pt.slots] at X105 l105 y105 z105 st105 hQ105
            subst l105 y105 z105
            obtain ⟨h105, e105⟩ : ∃ z, T105.heap = z := ⟨_, rfl⟩
            rw [e105] at hQ105
            obtain ⟨an, rfl, Nq105, Kq105, hge, A105⟩ := hQ105
            have N105 := Fr.app N0 Nq105
            have Z105 : n0 ≤ h105.size := Nat.le_trans Z102 Kq105.1
            have f106 := f104.keep Kq105 nin0
            have f107 := A102.keep Kq105 nin0
            have gea : n0 ≤ an := Nat.le_trans Z102 hge
            refine W.s2 (mkF m 118 #[.val (.int x0), .val (.int xa), .val (.int xb), .val (.int xc), .val (.int xk), .val (.int (0 : Int32)), .val (.int (1 : Int32)), .val (.int o0), .val (.int o1), .val (.int o2), .val (.ref b101), .val (.ref b102), .unset, .unset] [(.ref an)]) st105 ?_
            refine W.s1 (mkF m 120 #[.val (.int x0), .val (.int xa), .val (.int xb), .val (.int xc), .val (.int xk), .val (.int (0 : Int32)), .val (.int (1 : Int32)), .val (.int o0), .val (.int o1), .val (.int o2), .val (.ref b101), .val (.ref b102), .val (.ref an), .unset] []) (fun _ kx_ => XS.astore X105.here hx rfl (hb hby at_118) rfl rfl (l' := #[.val (.int x0), .val (.int xa), .val (.int xb), .val (.int xc), .val (.int xk), .val (.int (0 : Int32)), .val (.int (1 : Int32)), .val (.int o0), .val (.int o1), .val (.int o2), .val (.ref b101), .val (.ref b102), .val (.ref an), .unset]) rfl kx_) ?_
            refine W.s1 (mkF m 122 #[.val (.int x0), .val (.int xa), .val (.int xb), .val (.int xc), .val (.int xk), .val (.int (0 : Int32)), .val (.int (1 : Int32)), .val (.int o0), .val (.int o1), .val (.int o2), .val (.ref b101), .val (.ref b102), .val (.ref an), .unset] [(.ref an)]) (fun _ kx_ => XS.aload X105.here hx rfl (hb hby at_120) rfl rfl kx_) ?_
            refine W.alen X105 hx hZ e105 A105 (z := (0 : Int32)) rfl (hb hby at_122) (pc' := 123) rfl ?_
            refine W.s1 (mkF m 125 #[.val (.int x0), .val (.int xa), .val (.int xb), .val (.int xc), .val (.int xk), .val (.int (0 : Int32)), .val (.int (1 : Int32)), .val (.int o0), .val (.int o1), .val (.int o2), .val (.ref b101), .val (.ref b102), .val (.ref an), .unset] [(.int (0 : Int32)), (.int (0 : Int32))]) (fun _ kx_ => XS.iload X105.here hx rfl (hb hby at_123) rfl kx_) ?_
            refine W.icmp X105 hx (hb hby at_125) (pc' := 132) (pc'' := 128) (by decide) (by decide) rfl (fun (c125 : ¬ (0 : Int32) = (0 : Int32)) => ?_) (fun (c125 : (0 : Int32) = (0 : Int32)) => ?_)
            · exact absurd c125 (by decide)
            · refine W.s1 (mkF m 129 #[.val (.int x0), .val (.int xa), .val (.int xb), .val (.int xc), .val (.int xk), .val (.int (0 : Int32)), .val (.int (1 : Int32)), .val (.int o0), .val (.int o1), .val (.int o2), .val (.ref b101), .val (.ref b102), .val (.ref an), .unset] [(.int (1 : Int32))]) (fun _ kx_ => XS.iconst X105.here hx rfl (hb hby at_128) kx_) ?_
              refine W.s1 (mkF m 133 #[.val (.int x0), .val (.int xa), .val (.int xb), .val (.int xc), .val (.int xk), .val (.int (0 : Int32)), .val (.int (1 : Int32)), .val (.int o0), .val (.int o1), .val (.int o2), .val (.ref b101), .val (.ref b102), .val (.ref an), .unset] [(.int (1 : Int32))]) (fun _ kx_ => XS.goto X105.here hx rfl (pc0 := 129) (pc' := 133) rfl (hb hby at_129) (by decide) (by decide) kx_) ?_
              refine W.s1 (mkF m 135 #[.val (.int x0), .val (.int xa), .val (.int xb), .val (.int xc), .val (.int xk), .val (.int (0 : Int32)), .val (.int (1 : Int32)), .val (.int o0), .val (.int o1), .val (.int o2), .val (.ref b101), .val (.ref b102), .val (.ref an), .val (.int (1 : Int32))] []) (fun _ kx_ => XS.istore X105.here hx rfl (hb hby at_133) rfl (l' := #[.val (.int x0), .val (.int xa), .val (.int xb), .val (.int xc), .val (.int xk), .val (.int (0 : Int32)), .val (.int (1 : Int32)), .val (.int o0), .val (.int o1), .val (.int o2), .val (.ref b101), .val (.ref b102), .val (.ref an), .val (.int (1 : Int32))]) rfl kx_) ?_
              refine W.s1 (mkF m 137 #[.val (.int x0), .val (.int xa), .val (.int xb), .val (.int xc), .val (.int xk), .val (.int (0 : Int32)), .val (.int (1 : Int32)), .val (.int o0), .val (.int o1), .val (.int o2), .val (.ref b101), .val (.ref b102), .val (.ref an), .val (.int (1 : Int32))] [(.int (1 : Int32))]) (fun _ kx_ => XS.iload X105.here hx rfl (hb hby at_135) rfl kx_) ?_
              refine W.ifc X105 hx (hb hby at_137) (pc' := 184) (pc'' := 140) (by decide) (by decide) rfl (fun (c137 : (1 : Int32) = (0 : Int32)) => ?_) (fun (c137 : ¬ (1 : Int32) = (0 : Int32)) => ?_)
              · exact absurd c137 (by decide)
              · refine W.s1 (mkF m 142 #[.val (.int x0), .val (.int xa), .val (.int xb), .val (.int xc), .val (.int xk), .val (.int (0 : Int32)), .val (.int (1 : Int32)), .val (.int o0), .val (.int o1), .val (.int o2), .val (.ref b101), .val (.ref b102), .val (.ref an), .val (.int (1 : Int32))] [(.int (0 : Int32))]) (fun _ kx_ => XS.iload X105.here hx rfl (hb hby at_140) rfl kx_) ?_
                refine W.ifc X105 hx (hb hby at_142) (pc' := 184) (pc'' := 145) (by decide) (by decide) rfl (fun (c142 : ¬ (0 : Int32) < (0 : Int32)) => ?_) (fun (c142 : (0 : Int32) < (0 : Int32)) => ?_)
                · refine W.s1 (mkF m 186 #[.val (.int x0), .val (.int xa), .val (.int xb), .val (.int xc), .val (.int xk), .val (.int (0 : Int32)), .val (.int (1 : Int32)), .val (.int o0), .val (.int o1), .val (.int o2), .val (.ref b101), .val (.ref b102), .val (.ref an), .val (.int (1 : Int32))] [(.int (1 : Int32))]) (fun _ kx_ => XS.iload X105.here hx rfl (hb hby at_184) rfl kx_) ?_
                  refine W.ifc X105 hx (hb hby at_186) (pc' := 234) (pc'' := 189) (by decide) (by decide) rfl (fun (c186 : (1 : Int32) = (0 : Int32)) => ?_) (fun (c186 : ¬ (1 : Int32) = (0 : Int32)) => ?_)
                  · exact absurd c186 (by decide)
                  · refine W.s1 (mkF m 191 #[.val (.int x0), .val (.int xa), .val (.int xb), .val (.int xc), .val (.int xk), .val (.int (0 : Int32)), .val (.int (1 : Int32)), .val (.int o0), .val (.int o1), .val (.int o2), .val (.ref b101), .val (.ref b102), .val (.ref an), .val (.int (1 : Int32))] [(.int (0 : Int32))]) (fun _ kx_ => XS.iload X105.here hx rfl (hb hby at_189) rfl kx_) ?_
                    refine W.s1 (mkF m 192 #[.val (.int x0), .val (.int xa), .val (.int xb), .val (.int xc), .val (.int xk), .val (.int (0 : Int32)), .val (.int (1 : Int32)), .val (.int o0), .val (.int o1), .val (.int o2), .val (.ref b101), .val (.ref b102), .val (.ref an), .val (.int (1 : Int32))] [(.int (1 : Int32)), (.int (0 : Int32))]) (fun _ kx_ => XS.iconst X105.here hx rfl (hb hby at_191) kx_) ?_
                    refine W.icmp X105 hx (hb hby at_192) (pc' := 234) (pc'' := 195) (by decide) (by decide) rfl (fun (c192 : ¬ (1 : Int32) < (0 : Int32)) => ?_) (fun (c192 : (1 : Int32) < (0 : Int32)) => ?_)
                    · refine W.s1 (mkF m 236 #[.val (.int x0), .val (.int xa), .val (.int xb), .val (.int xc), .val (.int xk), .val (.int (0 : Int32)), .val (.int (1 : Int32)), .val (.int o0), .val (.int o1), .val (.int o2), .val (.ref b101), .val (.ref b102), .val (.ref an), .val (.int (1 : Int32))] [(.int (1 : Int32))]) (fun _ kx_ => XS.iload X105.here hx rfl (hb hby at_234) rfl kx_) ?_
                      refine W.ifc X105 hx (hb hby at_236) (pc' := 284) (pc'' := 239) (by decide) (by decide) rfl (fun (c236 : (1 : Int32) = (0 : Int32)) => ?_) (fun (c236 : ¬ (1 : Int32) = (0 : Int32)) => ?_)
                      · exact absurd c236 (by decide)
                      · refine W.s1 (mkF m 241 #[.val (.int x0), .val (.int xa), .val (.int xb), .val (.int xc), .val (.int xk), .val (.int (0 : Int32)), .val (.int (1 : Int32)), .val (.int o0), .val (.int o1), .val (.int o2), .val (.ref b101), .val (.ref b102), .val (.ref an), .val (.int (1 : Int32))] [(.int (0 : Int32))]) (fun _ kx_ => XS.iload X105.here hx rfl (hb hby at_239) rfl kx_) ?_
                        refine W.s1 (mkF m 242 #[.val (.int x0), .val (.int xa), .val (.int xb), .val (.int xc), .val (.int xk), .val (.int (0 : Int32)), .val (.int (1 : Int32)), .val (.int o0), .val (.int o1), .val (.int o2), .val (.ref b101), .val (.ref b102), .val (.ref an), .val (.int (1 : Int32))] [(.int (2 : Int32)), (.int (0 : Int32))]) (fun _ kx_ => XS.iconst X105.here hx rfl (hb hby at_241) kx_) ?_
                        refine W.icmp X105 hx (hb hby at_242) (pc' := 284) (pc'' := 245) (by decide) (by decide) rfl (fun (c242 : ¬ (2 : Int32) < (0 : Int32)) => ?_) (fun (c242 : (2 : Int32) < (0 : Int32)) => ?_)
                        · refine W.s1 (mkF m 286 #[.val (.int x0), .val (.int xa), .val (.int xb), .val (.int xc), .val (.int xk), .val (.int (0 : Int32)), .val (.int (1 : Int32)), .val (.int o0), .val (.int o1), .val (.int o2), .val (.ref b101), .val (.ref b102), .val (.ref an), .val (.int (1 : Int32))] [(.int (1 : Int32))]) (fun _ kx_ => XS.iload X105.here hx rfl (hb hby at_284) rfl kx_) ?_
                          exact W.retZ X105 hx hlk (t := .boolean) (z' := (1 : Int32)) Bd.returns (by simp) (hb hby at_286) rfl (by show Q0 Z x0 xa xb xc xk h0 n0 _ T105.heap _; rw [e105]; exact ⟨rfl, N105⟩) (by decide) (by decide)
                        · exact absurd c242 (by decide)
                    · exact absurd c192 (by decide)
                · exact absurd c142 (by decide)
          · exact absurd c97 (by decide)
        · exact absurd c80 (by decide)
      · exact absurd c63 (by decide)
  · refine W.s1 (mkF m 7 #[.val (.int x0), .val (.int xa), .val (.int xb), .val (.int xc), .val (.int xk), .val (.int (1 : Int32)), .unset, .unset, .unset, .unset, .unset, .unset, .unset, .unset] [(.int (1 : Int32))]) (fun _ kx_ => XS.iload X0.here hx rfl (hb hby at_5) rfl kx_) ?_
    refine W.ifc X0 hx (hb hby at_7) (pc' := 14) (pc'' := 10) (by decide) (by decide) rfl (fun (c7 : ¬ (1 : Int32) = (0 : Int32)) => ?_) (fun (c7 : (1 : Int32) = (0 : Int32)) => ?_)
    · refine W.s1 (mkF m 16 #[.val (.int x0), .val (.int xa), .val (.int xb), .val (.int xc), .val (.int xk), .val (.int (1 : Int32)), .unset, .unset, .unset, .unset, .unset, .unset, .unset, .unset] [(.int (1 : Int32))]) (fun _ kx_ => XS.iload X0.here hx rfl (hb hby at_14) rfl kx_) ?_
      refine W.s1 (mkF m 18 #[.val (.int x0), .val (.int xa), .val (.int xb), .val (.int xc), .val (.int xk), .val (.int (1 : Int32)), .val (.int (1 : Int32)), .unset, .unset, .unset, .unset, .unset, .unset, .unset] []) (fun _ kx_ => XS.istore X0.here hx rfl (hb hby at_16) rfl (l' := #[.val (.int x0), .val (.int xa), .val (.int xb), .val (.int xc), .val (.int xk), .val (.int (1 : Int32)), .val (.int (1 : Int32)), .unset, .unset, .unset, .unset, .unset, .unset, .unset]) rfl kx_) ?_
      refine W.s1 (mkF m 20 #[.val (.int x0), .val (.int xa), .val (.int xb), .val (.int xc), .val (.int xk), .val (.int (1 : Int32)), .val (.int (1 : Int32)), .unset, .unset, .unset, .unset, .unset, .unset, .unset] [(.int xk)]) (fun _ kx_ => XS.iload X0.here hx rfl (hb hby at_18) rfl kx_) ?_
      refine W.s1 (mkF m 21 #[.val (.int x0), .val (.int xa), .val (.int xb), .val (.int xc), .val (.int xk), .val (.int (1 : Int32)), .val (.int (1 : Int32)), .unset, .unset, .unset, .unset, .unset, .unset, .unset] [(.int (3 : Int32)), (.int xk)]) (fun _ kx_ => XS.iconst X0.here hx rfl (hb hby at_20) kx_) ?_
      refine W.s1 (mkF m 22 #[.val (.int x0), .val (.int xa), .val (.int xb), .val (.int xc), .val (.int xk), .val (.int (1 : Int32)), .val (.int (1 : Int32)), .unset, .unset, .unset, .unset, .unset, .unset, .unset] [(.int (xk &&& (3 : Int32)))]) (fun _ kx_ => XS.iand X0.here hx rfl (hb hby at_21) rfl kx_) ?_
      refine W.s1 (mkF m 24 #[.val (.int x0), .val (.int xa), .val (.int xb), .val (.int xc), .val (.int xk), .val (.int (1 : Int32)), .val (.int (1 : Int32)), .unset, .unset, .unset, .unset, .unset, .unset, .unset] [(.int (1 : Int32)), (.int (xk &&& (3 : Int32)))]) (fun _ kx_ => XS.iload X0.here hx rfl (hb hby at_22) rfl kx_) ?_
      refine W.s1 (mkF m 25 #[.val (.int x0), .val (.int xa), .val (.int xb), .val (.int xc), .val (.int xk), .val (.int (1 : Int32)), .val (.int (1 : Int32)), .unset, .unset, .unset, .unset, .unset, .unset, .unset] [(.int ((xk &&& (3 : Int32)) % (1 : Int32)))]) (fun _ kx_ => iremM X0 hx rfl (hb hby at_24) rfl (by decide) kx_) ?_
      generalize hg_o0 : ((xk &&& (3 : Int32)) % (1 : Int32)) = o0
      refine W.s1 (mkF m 27 #[.val (.int x0), .val (.int xa), .val (.int xb), .val (.int xc), .val (.int xk), .val (.int (1 : Int32)), .val (.int (1 : Int32)), .val (.int o0), .unset, .unset, .unset, .unset, .unset, .unset] []) (fun _ kx_ => XS.istore X0.here hx rfl (hb hby at_25) rfl (l' := #[.val (.int x0), .val (.int xa), .val (.int xb), .val (.int xc), .val (.int xk), .val (.int (1 : Int32)), .val (.int (1 : Int32)), .val (.int o0), .unset, .unset, .unset, .unset, .unset, .unset]) rfl kx_) ?_
      refine W.s1 (mkF m 29 #[.val (.int x0), .val (.int xa), .val (.int xb), .val (.int xc), .val (.int xk), .val (.int (1 : Int32)), .val (.int (1 : Int32)), .val (.int o0), .unset, .unset, .unset, .unset, .unset, .unset] [(.int xk)]) (fun _ kx_ => XS.iload X0.here hx rfl (hb hby at_27) rfl kx_) ?_
      refine W.s1 (mkF m 30 #[.val (.int x0), .val (.int xa), .val (.int xb), .val (.int xc), .val (.int xk), .val (.int (1 : Int32)), .val (.int (1 : Int32)), .val (.int o0), .unset, .unset, .unset, .unset, .unset, .unset] [(.int (2 : Int32)), (.int xk)]) (fun _ kx_ => XS.iconst X0.here hx rfl (hb hby at_29) kx_) ?_
      refine W.s1 (mkF m 31 #[.val (.int x0), .val (.int xa), .val (.int xb), .val (.int xc), .val (.int xk), .val (.int (1 : Int32)), .val (.int (1 : Int32)), .val (.int o0), .unset, .unset, .unset, .unset, .unset, .unset] [(.int ((xk.toUInt32 >>> ((2 : Int32) &&& 31).toUInt32).toInt32))]) (fun _ kx_ => XS.iushr X0.here hx rfl (hb hby at_30) rfl kx_) ?_
      refine W.s1 (mkF m 32 #[.val (.int x0), .val (.int xa), .val (.int xb), .val (.int xc), .val (.int xk), .val (.int (1 : Int32)), .val (.int (1 : Int32)), .val (.int o0), .unset, .unset, .unset, .unset, .unset, .unset] [(.int (3 : Int32)), (.int ((xk.toUInt32 >>> ((2 : Int32) &&& 31).toUInt32).toInt32))]) (fun _ kx_ => XS.iconst X0.here hx rfl (hb hby at_31) kx_) ?_
      refine W.s1 (mkF m 33 #[.val (.int x0), .val (.int xa), .val (.int xb), .val (.int xc), .val (.int xk), .val (.int (1 : Int32)), .val (.int (1 : Int32)), .val (.int o0), .unset, .unset, .unset, .unset, .unset, .unset] [(.int (((xk.toUInt32 >>> ((2 : Int32) &&& 31).toUInt32).toInt32) &&& (3 : Int32)))]) (fun _ kx_ => XS.iand X0.here hx rfl (hb hby at_32) rfl kx_) ?_
      refine W.s1 (mkF m 35 #[.val (.int x0), .val (.int xa), .val (.int xb), .val (.int xc), .val (.int xk), .val (.int (1 : Int32)), .val (.int (1 : Int32)), .val (.int o0), .unset, .unset, .unset, .unset, .unset, .unset] [(.int (1 : Int32)), (.int (((xk.toUInt32 >>> ((2 : Int32) &&& 31).toUInt32).toInt32) &&& (3 : Int32)))]) (fun _ kx_ => XS.iload X0.here hx rfl (hb hby at_33) rfl kx_) ?_
      refine W.s1 (mkF m 36 #[.val (.int x0), .val (.int xa), .val (.int xb), .val (.int xc), .val (.int xk), .val (.int (1 : Int32)), .val (.int (1 : Int32)), .val (.int o0), .unset, .unset, .unset, .unset, .unset, .unset] [(.int ((((xk.toUInt32 >>> ((2 : Int32) &&& 31).toUInt32).toInt32) &&& (3 : Int32)) % (1 : Int32)))]) (fun _ kx_ => iremM X0 hx rfl (hb hby at_35) rfl (by decide) kx_) ?_
      generalize hg_o1 : ((((xk.toUInt32 >>> ((2 : Int32) &&& 31).toUInt32).toInt32) &&& (3 : Int32)) % (1 : Int32)) = o1
      refine W.s1 (mkF m 38 #[.val (.int x0), .val (.int xa), .val (.int xb), .val (.int xc), .val (.int xk), .val (.int (1 : Int32)), .val (.int (1 : Int32)), .val (.int o0), .val (.int o1), .unset, .unset, .unset, .unset, .unset] []) (fun _ kx_ => XS.istore X0.here hx rfl (hb hby at_36) rfl (l' := #[.val (.int x0), .val (.int xa), .val (.int xb), .val (.int xc), .val (.int xk), .val (.int (1 : Int32)), .val (.int (1 : Int32)), .val (.int o0), .val (.int o1), .unset, .unset, .unset, .unset, .unset]) rfl kx_) ?_
      refine W.s1 (mkF m 40 #[.val (.int x0), .val (.int xa), .val (.int xb), .val (.int xc), .val (.int xk), .val (.int (1 : Int32)), .val (.int (1 : Int32)), .val (.int o0), .val (.int o1), .unset, .unset, .unset, .unset, .unset] [(.int xk)]) (fun _ kx_ => XS.iload X0.here hx rfl (hb hby at_38) rfl kx_) ?_
      refine W.s1 (mkF m 41 #[.val (.int x0), .val (.int xa), .val (.int xb), .val (.int xc), .val (.int xk), .val (.int (1 : Int32)), .val (.int (1 : Int32)), .val (.int o0), .val (.int o1), .unset, .unset, .unset, .unset, .unset] [(.int (4 : Int32)), (.int xk)]) (fun _ kx_ => XS.iconst X0.here hx rfl (hb hby at_40) kx_) ?_
      refine W.s1 (mkF m 42 #[.val (.int x0), .val (.int xa), .val (.int xb), .val (.int xc), .val (.int xk), .val (.int (1 : Int32)), .val (.int (1 : Int32)), .val (.int o0), .val (.int o1), .unset, .unset, .unset, .unset, .unset] [(.int ((xk.toUInt32 >>> ((4 : Int32) &&& 31).toUInt32).toInt32))]) (fun _ kx_ => XS.iushr X0.here hx rfl (hb hby at_41) rfl kx_) ?_
      refine W.s1 (mkF m 43 #[.val (.int x0), .val (.int xa), .val (.int xb), .val (.int xc), .val (.int xk), .val (.int (1 : Int32)), .val (.int (1 : Int32)), .val (.int o0), .val (.int o1), .unset, .unset, .unset, .unset, .unset] [(.int (3 : Int32)), (.int ((xk.toUInt32 >>> ((4 : Int32) &&& 31).toUInt32).toInt32))]) (fun _ kx_ => XS.iconst X0.here hx rfl (hb hby at_42) kx_) ?_
      refine W.s1 (mkF m 44 #[.val (.int x0), .val (.int xa), .val (.int xb), .val (.int xc), .val (.int xk), .val (.int (1 : Int32)), .val (.int (1 : Int32)), .val (.int o0), .val (.int o1), .unset, .unset, .unset, .unset, .unset] [(.int (((xk.toUInt32 >>> ((4 : Int32) &&& 31).toUInt32).toInt32) &&& (3 : Int32)))]) (fun _ kx_ => XS.iand X0.here hx rfl (hb hby at_43) rfl kx_) ?_
      refine W.s1 (mkF m 46 #[.val (.int x0), .val (.int xa), .val (.int xb), .val (.int xc), .val (.int xk), .val (.int (1 : Int32)), .val (.int (1 : Int32)), .val (.int o0), .val (.int o1), .unset, .unset, .unset, .unset, .unset] [(.int (1 : Int32)), (.int (((xk.toUInt32 >>> ((4 : Int32) &&& 31).toUInt32).toInt32) &&& (3 : Int32)))]) (fun _ kx_ => XS.iload X0.here hx rfl (hb hby at_44) rfl kx_) ?_
      refine W.s1 (mkF m 47 #[.val (.int x0), .val (.int xa), .val (.int xb), .val (.int xc), .val (.int xk), .val (.int (1 : Int32)), .val (.int (1 : Int32)), .val (.int o0), .val (.int o1), .unset, .unset, .unset, .unset, .unset] [(.int ((((xk.toUInt32 >>> ((4 : Int32) &&& 31).toUInt32).toInt32) &&& (3 : Int32)) % (1 : Int32)))]) (fun _ kx_ => iremM X0 hx rfl (hb hby at_46) rfl (by decide) kx_) ?_
      generalize hg_o2 : ((((xk.toUInt32 >>> ((4 : Int32) &&& 31).toUInt32).toInt32) &&& (3 : Int32)) % (1 : Int32)) = o2
      refine W.s1 (mkF m 49 #[.val (.int x0), .val (.int xa), .val (.int xb), .val (.int xc), .val (.int xk), .val (.int (1 : Int32)), .val (.int (1 : Int32)), .val (.int o0), .val (.int o1), .val (.int o2), .unset, .unset, .unset, .unset] []) (fun _ kx_ => XS.istore X0.here hx rfl (hb hby at_47) rfl (l' := #[.val (.int x0), .val (.int xa), .val (.int xb), .val (.int xc), .val (.int xk), .val (.int (1 : Int32)), .val (.int (1 : Int32)), .val (.int o0), .val (.int o1), .val (.int o2), .unset, .unset, .unset, .unset]) rfl kx_) ?_
      obtain ⟨k0, hk0, hl0⟩ : ∃ k : Nat, o0.toInt = k ∧ k < 1 := by rw [← hg_o0]; exact own_o _ 1 1 rfl (by decide)
      obtain ⟨k1, hk1, hl1⟩ : ∃ k : Nat, o1.toInt = k ∧ k < 1 := by rw [← hg_o1]; exact own_o _ 1 1 rfl (by decide)
      obtain ⟨k2, hk2, hl2⟩ : ∃ k : Nat, o2.toInt = k ∧ k < 1 := by rw [← hg_o2]; exact own_o _ 1 1 rfl (by decide)
      refine W.s1 (mkF m 51 #[.val (.int x0), .val (.int xa), .val (.int xb), .val (.int xc), .val (.int xk), .val (.int (1 : Int32)), .val (.int (1 : Int32)), .val (.int o0), .val (.int o1), .val (.int o2), .unset, .unset, .unset, .unset] [(.int (1 : Int32))]) (fun _ kx_ => XS.iload X0.here hx rfl (hb hby at_49) rfl kx_) ?_
      refine W.newi X0 hx hZ (ty := .int) (aty := .int) (hw _ (List.mem_of_getElem? (i := 0) rfl)) rfl rfl e0 (hb hby at_51) (n := 1) rfl (cap := 1) (Nat.le_refl _) (by decide) (by decide) (by decide) (pc' := 53) rfl (fun T108 h108 b108 X108 e108 E108 g108 A108 => ?_)
      have ge108 : n0 ≤ b108 := Nat.le_trans Z0 (Nat.le_of_eq g108.symm)
      have Z108 : n0 ≤ h108.size := Nat.le_trans Z0 E108.1
      refine W.s1 (mkF m 55 #[.val (.int x0), .val (.int xa), .val (.int xb), .val (.int xc), .val (.int xk), .val (.int (1 : Int32)), .val (.int (1 : Int32)), .val (.int o0), .val (.int o1), .val (.int o2), .val (.ref b108), .unset, .unset, .unset] []) (fun _ kx_ => XS.astore X108.here hx rfl (hb hby at_53) rfl rfl (l' := #[.val (.int x0), .val (.int xa), .val (.int xb), .val (.int xc), .val (.int xk), .val (.int (1 : Int32)), .val (.int (1 : Int32)), .val (.int o0), .val (.int o1), .val (.int o2), .val (.ref b108), .unset, .unset, .unset]) rfl kx_) ?_
      refine W.s1 (mkF m 57 #[.val (.int x0), .val (.int xa), .val (.int xb), .val (.int xc), .val (.int xk), .val (.int (1 : Int32)), .val (.int (1 : Int32)), .val (.int o0), .val (.int o1), .val (.int o2), .val (.ref b108), .unset, .unset, .unset] [(.int (1 : Int32))]) (fun _ kx_ => XS.iload X108.here hx rfl (hb hby at_55) rfl kx_) ?_
      refine W.newi X108 hx hZ (ty := .int) (aty := .int) (hw _ (List.mem_of_getElem? (i := 0) rfl)) rfl rfl e108 (hb hby at_57) (n := 1) rfl (cap := 1) (Nat.le_refl _) (by decide) (by decide) (by decide) (pc' := 59) rfl (fun T109 h109 b109 X109 e109 E109 g109 A109 => ?_)
      have ne110 : b108 ≠ b109 := Nat.ne_of_lt (Nat.lt_of_lt_of_le A108.lt (Nat.le_of_eq g109.symm))
      have ge109 : n0 ≤ b109 := Nat.le_trans Z108 (Nat.le_of_eq g109.symm)
      have Z109 : n0 ≤ h109.size := Nat.le_trans Z108 E109.1
      have f111 := A108.ext E109
      refine W.s1 (mkF m 61 #[.val (.int x0), .val (.int xa), .val (.int xb), .val (.int xc), .val (.int xk), .val (.int (1 : Int32)), .val (.int (1 : Int32)), .val (.int o0), .val (.int o1), .val (.int o2), .val (.ref b108), .val (.ref b109), .unset, .unset] []) (fun _ kx_ => XS.astore X109.here hx rfl (hb hby at_59) rfl rfl (l' := #[.val (.int x0), .val (.int xa), .val (.int xb), .val (.int xc), .val (.int xk), .val (.int (1 : Int32)), .val (.int (1 : Int32)), .val (.int o0), .val (.int o1), .val (.int o2), .val (.ref b108), .val (.ref b109), .unset, .unset]) rfl kx_) ?_
      refine W.s1 (mkF m 63 #[.val (.int x0), .val (.int xa), .val (.int xb), .val (.int xc), .val (.int xk), .val (.int (1 : Int32)), .val (.int (1 : Int32)), .val (.int o0), .val (.int o1), .val (.int o2), .val (.ref b108), .val (.ref b109), .unset, .unset] [(.int (1 : Int32))]) (fun _ kx_ => XS.iload X109.here hx rfl (hb hby at_61) rfl kx_) ?_
      refine W.ifc X109 hx (hb hby at_63) (pc' := 77) (pc'' := 66) (by decide) (by decide) rfl (fun (c63 : ¬ (0 : Int32) < (1 : Int32)) => ?_) (fun (c63 : (0 : Int32) < (1 : Int32)) => ?_)
      · exact absurd c63 (by decide)
      · refine W.s1 (mkF m 68 #[.val (.int x0), .val (.int xa), .val (.int xb), .val (.int xc), .val (.int xk), .val (.int (1 : Int32)), .val (.int (1 : Int32)), .val (.int o0), .val (.int o1), .val (.int o2), .val (.ref b108), .val (.ref b109), .unset, .unset] [(.ref b108)]) (fun _ kx_ => XS.aload X109.here hx rfl (hb hby at_66) rfl rfl kx_) ?_
        refine W.s1 (mkF m 69 #[.val (.int x0), .val (.int xa), .val (.int xb), .val (.int xc), .val (.int xk), .val (.int (1 : Int32)), .val (.int (1 : Int32)), .val (.int o0), .val (.int o1), .val (.int o2), .val (.ref b108), .val (.ref b109), .unset, .unset] [(.int (0 : Int32)), (.ref b108)]) (fun _ kx_ => XS.iconst X109.here hx rfl (hb hby at_68) kx_) ?_
        refine W.s1 (mkF m 70 #[.val (.int x0), .val (.int xa), .val (.int xb), .val (.int xc), .val (.int xk), .val (.int (1 : Int32)), .val (.int (1 : Int32)), .val (.int o0), .val (.int o1), .val (.int o2), .val (.ref b108), .val (.ref b109), .unset, .unset] [(.int xa), (.int (0 : Int32)), (.ref b108)]) (fun _ kx_ => XS.iloadN X109.here hx rfl (hb hby at_69) rfl kx_) ?_
        refine W.sti X109 hx hZ e109 f111 0 rfl (by decide) N0 ge108 (hb hby at_70) (pc' := 71) rfl (fun T112 h112 L112 X112 e112 W112 fw112 N112 => ?_)
        have Z112 : n0 ≤ h112.size := Nat.le_trans Z109 (Keep.of_wr W112).1
        have f113 := A109.other W112 (Ne.symm ne110)
        refine W.s1 (mkF m 73 #[.val (.int x0), .val (.int xa), .val (.int xb), .val (.int xc), .val (.int xk), .val (.int (1 : Int32)), .val (.int (1 : Int32)), .val (.int o0), .val (.int o1), .val (.int o2), .val (.ref b108), .val (.ref b109), .unset, .unset] [(.ref b109)]) (fun _ kx_ => XS.aload X112.here hx rfl (hb hby at_71) rfl rfl kx_) ?_
        refine W.s1 (mkF m 74 #[.val (.int x0), .val (.int xa), .val (.int xb), .val (.int xc), .val (.int xk), .val (.int (1 : Int32)), .val (.int (1 : Int32)), .val (.int o0), .val (.int o1), .val (.int o2), .val (.ref b108), .val (.ref b109), .unset, .unset] [(.int (0 : Int32)), (.ref b109)]) (fun _ kx_ => XS.iconst X112.here hx rfl (hb hby at_73) kx_) ?_
        refine W.s1 (mkF m 76 #[.val (.int x0), .val (.int xa), .val (.int xb), .val (.int xc), .val (.int xk), .val (.int (1 : Int32)), .val (.int (1 : Int32)), .val (.int o0), .val (.int o1), .val (.int o2), .val (.ref b108), .val (.ref b109), .unset, .unset] [(.int o0), (.int (0 : Int32)), (.ref b109)]) (fun _ kx_ => XS.iload X112.here hx rfl (hb hby at_74) rfl kx_) ?_
        refine W.sti X112 hx hZ e112 f113 0 rfl (by decide) N112 ge109 (hb hby at_76) (pc' := 77) rfl (fun T114 h114 L114 X114 e114 W114 fw114 N114 => ?_)
        have Z114 : n0 ≤ h114.size := Nat.le_trans Z112 (Keep.of_wr W114).1
        have f115 := fw112.other W114 ne110
        refine W.s1 (mkF m 79 #[.val (.int x0), .val (.int xa), .val (.int xb), .val (.int xc), .val (.int xk), .val (.int (1 : Int32)), .val (.int (1 : Int32)), .val (.int o0), .val (.int o1), .val (.int o2), .val (.ref b108), .val (.ref b109), .unset, .unset] [(.int (1 : Int32))]) (fun _ kx_ => XS.iload X114.here hx rfl (hb hby at_77) rfl kx_) ?_
        refine W.s1 (mkF m 80 #[.val (.int x0), .val (.int xa), .val (.int xb), .val (.int xc), .val (.int xk), .val (.int (1 : Int32)), .val (.int (1 : Int32)), .val (.int o0), .val (.int o1), .val (.int o2), .val (.ref b108), .val (.ref b109), .unset, .unset] [(.int (1 : Int32)), (.int (1 : Int32))]) (fun _ kx_ => XS.iconst X114.here hx rfl (hb hby at_79) kx_) ?_
        refine W.icmp X114 hx (hb hby at_80) (pc' := 94) (pc'' := 83) (by decide) (by decide) rfl (fun (c80 : ¬ (1 : Int32) < (1 : Int32)) => ?_) (fun (c80 : (1 : Int32) < (1 : Int32)) => ?_)
        · refine W.s1 (mkF m 96 #[.val (.int x0), .val (.int xa), .val (.int xb), .val (.int xc), .val (.int xk), .val (.int (1 : Int32)), .val (.int (1 : Int32)), .val (.int o0), .val (.int o1), .val (.int o2), .val (.ref b108), .val (.ref b109), .unset, .unset] [(.int (1 : Int32))]) (fun _ kx_ => XS.iload X114.here hx rfl (hb hby at_94) rfl kx_) ?_
          refine W.s1 (mkF m 97 #[.val (.int x0), .val (.int xa), .val (.int xb), .val (.int xc), .val (.int xk), .val (.int (1 : Int32)), .val (.int (1 : Int32)), .val (.int o0), .val (.int o1), .val (.int o2), .val (.ref b108), .val (.ref b109), .unset, .unset] [(.int (2 : Int32)), (.int (1 : Int32))]) (fun _ kx_ => XS.iconst X114.here hx rfl (hb hby at_96) kx_) ?_
          refine W.icmp X114 hx (hb hby at_97) (pc' := 111) (pc'' := 100) (by decide) (by decide) rfl (fun (c97 : ¬ (2 : Int32) < (1 : Int32)) => ?_) (fun (c97 : (2 : Int32) < (1 : Int32)) => ?_)
          · refine W.s1 (mkF m 113 #[.val (.int x0), .val (.int xa), .val (.int xb), .val (.int xc), .val (.int xk), .val (.int (1 : Int32)), .val (.int (1 : Int32)), .val (.int o0), .val (.int o1), .val (.int o2), .val (.ref b108), .val (.ref b109), .unset, .unset] [(.ref b108)]) (fun _ kx_ => XS.aload X114.here hx rfl (hb hby at_111) rfl rfl kx_) ?_
            refine W.s1 (mkF m 115 #[.val (.int x0), .val (.int xa), .val (.int xb), .val (.int xc), .val (.int xk), .val (.int (1 : Int32)), .val (.int (1 : Int32)), .val (.int o0), .val (.int o1), .val (.int o2), .val (.ref b108), .val (.ref b109), .unset, .unset] [(.ref b109), (.ref b108)]) (fun _ kx_ => XS.aload X114.here hx rfl (hb hby at_113) rfl rfl kx_) ?_
            obtain ⟨_, _, ⟨T116, L116, k116, n116⟩, -, X116, ⟨Lc116, hQ116, l116, y116, z116⟩, st116⟩ := Jvm.LawKit.callS X114 hx (y := (⟨"com/example/vertumnus/vertumnus/engine/Symmetry", "then", "([I[I)[I"⟩ : MethodName)) hown (mvT hZ (hw _ (List.mem_of_getElem? (i := 1) rfl))) (mvT hZ (hw _ (List.mem_of_getElem? (i := 2) rfl))) (mvT hZ (hw _ (List.mem_of_getElem? (i := 3) rfl))) (mvT hZ (hw _ (List.mem_of_getElem? (i := 4) rfl))) (by decide) (backOf (W := 0) (rm1 l Z a0 hw [] b108 b109 1 (1 : Int32) (W.up (fun _ => 0) 0 xa) (W.up (fun _ => 0) 0 o0) h114 n0 Z114 rfl (by decide) f115 fw114 (fun k hk => by rcases (show k = 0 by omega) with rfl; exact ⟨k0, hk0, hl0⟩)) hZ (hw _ (List.mem_of_getElem? (i := 4) rfl)) (hw _ (List.mem_of_getElem? (i := 3) rfl)) (by decide) (by decide)) (g := (mkF m 115 #[.val (.int x0), .val (.int xa), .val (.int xb), .val (.int xc), .val (.int xk), .val (.int (1 : Int32)), .val (.int (1 : Int32)), .val (.int o0), .val (.int o1), .val (.int o2), .val (.ref b108), .val (.ref b109), .unset, .unset] [(.ref b109), (.ref b108)])) rfl (by rw [hml]; rfl) (argsL := [(.ref b108), (.ref b109)]) (rest := []) (lenOf pd_0 rfl) rfl (by show 2 * 0 + _ ≤ _; exact Nat.le_of_eq rfl) (hb hby at_115) (fun _ _ => ⟨rfl, e114, (by decide : 2 + 1 ≤ _), (by decide : 2 + 3 ≤ _)⟩)
            dsimp only [Pt.U, Pt.locs, Pt.cells, Pt.slots] at X116 l116 y116 z116 st116 hQ116
            subst l116 y116 z116
            obtain ⟨h116, e116⟩ : ∃ z, T116.heap = z := ⟨_, rfl⟩
            rw [e116] at hQ116
            obtain ⟨an, rfl, Nq116, Kq116, hge, A116⟩ := hQ116
            have N116 := Fr.app N114 Nq116
            have Z116 : n0 ≤ h116.size := Nat.le_trans Z114 Kq116.1
            have f117 := f115.keep Kq116 nin0
            have f118 := fw114.keep Kq116 nin0
            have gea : n0 ≤ an := Nat.le_trans Z114 hge
            have hp0 : own_g (W.up (fun _ => 0) 0 xa) (W.up (fun _ => 0) 0 o0) 0 = own_pick o0 xa xb xc := own_pk hk0 hl0 (by decide) (W.up (fun _ => 0) 0 xa) rfl (fun q => absurd q (by decide)) (fun q => absurd q (by decide))
            refine W.s2 (mkF m 118 #[.val (.int x0), .val (.int xa), .val (.int xb), .val (.int xc), .val (.int xk), .val (.int (1 : Int32)), .val (.int (1 : Int32)), .val (.int o0), .val (.int o1), .val (.int o2), .val (.ref b108), .val (.ref b109), .unset, .unset] [(.ref an)]) st116 ?_
            refine W.s1 (mkF m 120 #[.val (.int x0), .val (.int xa), .val (.int xb), .val (.int xc), .val (.int xk), .val (.int (1 : Int32)), .val (.int (1 : Int32)), .val (.int o0), .val (.int o1), .val (.int o2), .val (.ref b108), .val (.ref b109), .val (.ref an), .unset] []) (fun _ kx_ => XS.astore X116.here hx rfl (hb hby at_118) rfl rfl (l' := #[.val (.int x0), .val (.int xa), .val (.int xb), .val (.int xc), .val (.int xk), .val (.int (1 : Int32)), .val (.int (1 : Int32)), .val (.int o0), .val (.int o1), .val (.int o2), .val (.ref b108), .val (.ref b109), .val (.ref an), .unset]) rfl kx_) ?_
            refine W.s1 (mkF m 122 #[.val (.int x0), .val (.int xa), .val (.int xb), .val (.int xc), .val (.int xk), .val (.int (1 : Int32)), .val (.int (1 : Int32)), .val (.int o0), .val (.int o1), .val (.int o2), .val (.ref b108), .val (.ref b109), .val (.ref an), .unset] [(.ref an)]) (fun _ kx_ => XS.aload X116.here hx rfl (hb hby at_120) rfl rfl kx_) ?_
            refine W.alen X116 hx hZ e116 A116 (z := (1 : Int32)) rfl (hb hby at_122) (pc' := 123) rfl ?_
            refine W.s1 (mkF m 125 #[.val (.int x0), .val (.int xa), .val (.int xb), .val (.int xc), .val (.int xk), .val (.int (1 : Int32)), .val (.int (1 : Int32)), .val (.int o0), .val (.int o1), .val (.int o2), .val (.ref b108), .val (.ref b109), .val (.ref an), .unset] [(.int (1 : Int32)), (.int (1 : Int32))]) (fun _ kx_ => XS.iload X116.here hx rfl (hb hby at_123) rfl kx_) ?_
            refine W.icmp X116 hx (hb hby at_125) (pc' := 132) (pc'' := 128) (by decide) (by decide) rfl (fun (c125 : ¬ (1 : Int32) = (1 : Int32)) => ?_) (fun (c125 : (1 : Int32) = (1 : Int32)) => ?_)
            · exact absurd c125 (by decide)
            · refine W.s1 (mkF m 129 #[.val (.int x0), .val (.int xa), .val (.int xb), .val (.int xc), .val (.int xk), .val (.int (1 : Int32)), .val (.int (1 : Int32)), .val (.int o0), .val (.int o1), .val (.int o2), .val (.ref b108), .val (.ref b109), .val (.ref an), .unset] [(.int (1 : Int32))]) (fun _ kx_ => XS.iconst X116.here hx rfl (hb hby at_128) kx_) ?_
              refine W.s1 (mkF m 133 #[.val (.int x0), .val (.int xa), .val (.int xb), .val (.int xc), .val (.int xk), .val (.int (1 : Int32)), .val (.int (1 : Int32)), .val (.int o0), .val (.int o1), .val (.int o2), .val (.ref b108), .val (.ref b109), .val (.ref an), .unset] [(.int (1 : Int32))]) (fun _ kx_ => XS.goto X116.here hx rfl (pc0 := 129) (pc' := 133) rfl (hb hby at_129) (by decide) (by decide) kx_) ?_
              refine W.s1 (mkF m 135 #[.val (.int x0), .val (.int xa), .val (.int xb), .val (.int xc), .val (.int xk), .val (.int (1 : Int32)), .val (.int (1 : Int32)), .val (.int o0), .val (.int o1), .val (.int o2), .val (.ref b108), .val (.ref b109), .val (.ref an), .val (.int (1 : Int32))] []) (fun _ kx_ => XS.istore X116.here hx rfl (hb hby at_133) rfl (l' := #[.val (.int x0), .val (.int xa), .val (.int xb), .val (.int xc), .val (.int xk), .val (.int (1 : Int32)), .val (.int (1 : Int32)), .val (.int o0), .val (.int o1), .val (.int o2), .val (.ref b108), .val (.ref b109), .val (.ref an), .val (.int (1 : Int32))]) rfl kx_) ?_
              refine W.s1 (mkF m 137 #[.val (.int x0), .val (.int xa), .val (.int xb), .val (.int xc), .val (.int xk), .val (.int (1 : Int32)), .val (.int (1 : Int32)), .val (.int o0), .val (.int o1), .val (.int o2), .val (.ref b108), .val (.ref b109), .val (.ref an), .val (.int (1 : Int32))] [(.int (1 : Int32))]) (fun _ kx_ => XS.iload X116.here hx rfl (hb hby at_135) rfl kx_) ?_
              refine W.ifc X116 hx (hb hby at_137) (pc' := 184) (pc'' := 140) (by decide) (by decide) rfl (fun (c137 : (1 : Int32) = (0 : Int32)) => ?_) (fun (c137 : ¬ (1 : Int32) = (0 : Int32)) => ?_)
              · exact absurd c137 (by decide)
              · refine W.s1 (mkF m 142 #[.val (.int x0), .val (.int xa), .val (.int xb), .val (.int xc), .val (.int xk), .val (.int (1 : Int32)), .val (.int (1 : Int32)), .val (.int o0), .val (.int o1), .val (.int o2), .val (.ref b108), .val (.ref b109), .val (.ref an), .val (.int (1 : Int32))] [(.int (1 : Int32))]) (fun _ kx_ => XS.iload X116.here hx rfl (hb hby at_140) rfl kx_) ?_
                refine W.ifc X116 hx (hb hby at_142) (pc' := 184) (pc'' := 145) (by decide) (by decide) rfl (fun (c142 : ¬ (0 : Int32) < (1 : Int32)) => ?_) (fun (c142 : (0 : Int32) < (1 : Int32)) => ?_)
                · exact absurd c142 (by decide)
                · refine W.s1 (mkF m 147 #[.val (.int x0), .val (.int xa), .val (.int xb), .val (.int xc), .val (.int xk), .val (.int (1 : Int32)), .val (.int (1 : Int32)), .val (.int o0), .val (.int o1), .val (.int o2), .val (.ref b108), .val (.ref b109), .val (.ref an), .val (.int (1 : Int32))] [(.ref an)]) (fun _ kx_ => XS.aload X116.here hx rfl (hb hby at_145) rfl rfl kx_) ?_
                  refine W.s1 (mkF m 148 #[.val (.int x0), .val (.int xa), .val (.int xb), .val (.int xc), .val (.int xk), .val (.int (1 : Int32)), .val (.int (1 : Int32)), .val (.int o0), .val (.int o1), .val (.int o2), .val (.ref b108), .val (.ref b109), .val (.ref an), .val (.int (1 : Int32))] [(.int (0 : Int32)), (.ref an)]) (fun _ kx_ => XS.iconst X116.here hx rfl (hb hby at_147) kx_) ?_
                  refine W.ldi X116 hx hZ e116 A116 0 rfl (by decide) (hb hby at_148) (pc' := 149) rfl ?_
                  rw [hp0]
                  refine W.s1 (mkF m 151 #[.val (.int x0), .val (.int xa), .val (.int xb), .val (.int xc), .val (.int xk), .val (.int (1 : Int32)), .val (.int (1 : Int32)), .val (.int o0), .val (.int o1), .val (.int o2), .val (.ref b108), .val (.ref b109), .val (.ref an), .val (.int (1 : Int32))] [(.int o0), (.int (own_pick o0 xa xb xc))]) (fun _ kx_ => XS.iload X116.here hx rfl (hb hby at_149) rfl kx_) ?_
                  refine W.s1 (mkF m 152 #[.val (.int x0), .val (.int xa), .val (.int xb), .val (.int xc), .val (.int xk), .val (.int (1 : Int32)), .val (.int (1 : Int32)), .val (.int o0), .val (.int o1), .val (.int o2), .val (.ref b108), .val (.ref b109), .val (.ref an), .val (.int (1 : Int32))] [(.int xa), (.int o0), (.int (own_pick o0 xa xb xc))]) (fun _ kx_ => XS.iloadN X116.here hx rfl (hb hby at_151) rfl kx_) ?_
                  refine W.s1 (mkF m 153 #[.val (.int x0), .val (.int xa), .val (.int xb), .val (.int xc), .val (.int xk), .val (.int (1 : Int32)), .val (.int (1 : Int32)), .val (.int o0), .val (.int o1), .val (.int o2), .val (.ref b108), .val (.ref b109), .val (.ref an), .val (.int (1 : Int32))] [(.int xb), (.int xa), (.int o0), (.int (own_pick o0 xa xb xc))]) (fun _ kx_ => XS.iloadN X116.here hx rfl (hb hby at_152) rfl kx_) ?_
                  refine W.s1 (mkF m 154 #[.val (.int x0), .val (.int xa), .val (.int xb), .val (.int xc), .val (.int xk), .val (.int (1 : Int32)), .val (.int (1 : Int32)), .val (.int o0), .val (.int o1), .val (.int o2), .val (.ref b108), .val (.ref b109), .val (.ref an), .val (.int (1 : Int32))] [(.int xc), (.int xb), (.int xa), (.int o0), (.int (own_pick o0 xa xb xc))]) (fun _ kx_ => XS.iloadN X116.here hx rfl (hb hby at_153) rfl kx_) ?_
                  obtain ⟨_, _, ⟨T119, L119, k119, n119⟩, -, X119, ⟨Lc119, hQ119, l119, y119, z119⟩, st119⟩ := Jvm.LawKit.callS X116 hx (y := (⟨"com/example/vertumnus/vertumnus/engine/SymmetryThenPinLaw", "pick", "(IIII)I"⟩ : MethodName)) hown (mvT hZ (hw _ (List.mem_of_getElem? (i := 5) rfl))) (mvT hZ (hw _ (List.mem_of_getElem? (i := 6) rfl))) (mvT hZ (hw _ (List.mem_of_getElem? (i := 7) rfl))) (mvT hZ (hw _ (List.mem_of_getElem? (i := 8) rfl))) (by decide) (backOf (W := 1) (rm2 l Z a0 hw [] o0 xa xb xc h116 n0 Z116 ) hZ (hw _ (List.mem_of_getElem? (i := 8) rfl)) (hw _ (List.mem_of_getElem? (i := 7) rfl)) (by decide) (by decide)) (g := (mkF m 154 #[.val (.int x0), .val (.int xa), .val (.int xb), .val (.int xc), .val (.int xk), .val (.int (1 : Int32)), .val (.int (1 : Int32)), .val (.int o0), .val (.int o1), .val (.int o2), .val (.ref b108), .val (.ref b109), .val (.ref an), .val (.int (1 : Int32))] [(.int xc), (.int xb), (.int xa), (.int o0), (.int (own_pick o0 xa xb xc))])) rfl (by rw [hml]; rfl) (argsL := [(.int o0), (.int xa), (.int xb), (.int xc)]) (rest := [(.int (own_pick o0 xa xb xc))]) (lenOf pd_1 rfl) rfl (by show 2 * 0 + _ ≤ _; exact Nat.le_of_eq rfl) (hb hby at_154) (fun _ _ => ⟨rfl, e116, (by decide : 3 + 0 ≤ _), (by decide : 5 + 0 ≤ _)⟩)
                  dsimp only [Pt.U, Pt.locs, Pt.cells, Pt.slots] at X119 l119 y119 z119 st119 hQ119
                  subst l119 y119 z119
                  obtain ⟨rfl, Nq119, eq119⟩ := hQ119
                  have N119 := Fr.app N116 Nq119
                  refine W.s2 (mkF m 157 #[.val (.int x0), .val (.int xa), .val (.int xb), .val (.int xc), .val (.int xk), .val (.int (1 : Int32)), .val (.int (1 : Int32)), .val (.int o0), .val (.int o1), .val (.int o2), .val (.ref b108), .val (.ref b109), .val (.ref an), .val (.int (1 : Int32))] [(.int (own_pick o0 xa xb xc)), (.int (own_pick o0 xa xb xc))]) st119 ?_
                  refine W.icmp X119 hx (hb hby at_157) (pc' := 181) (pc'' := 160) (by decide) (by decide) rfl (fun (c157 : ¬ (own_pick o0 xa xb xc) = (own_pick o0 xa xb xc)) => ?_) (fun (c157 : (own_pick o0 xa xb xc) = (own_pick o0 xa xb xc)) => ?_)
                  · exact absurd rfl c157
                  · refine W.s1 (mkF m 162 #[.val (.int x0), .val (.int xa), .val (.int xb), .val (.int xc), .val (.int xk), .val (.int (1 : Int32)), .val (.int (1 : Int32)), .val (.int o0), .val (.int o1), .val (.int o2), .val (.ref b108), .val (.ref b109), .val (.ref an), .val (.int (1 : Int32))] [(.ref b108)]) (fun _ kx_ => XS.aload X119.here hx rfl (hb hby at_160) rfl rfl kx_) ?_
                    refine W.s1 (mkF m 163 #[.val (.int x0), .val (.int xa), .val (.int xb), .val (.int xc), .val (.int xk), .val (.int (1 : Int32)), .val (.int (1 : Int32)), .val (.int o0), .val (.int o1), .val (.int o2), .val (.ref b108), .val (.ref b109), .val (.ref an), .val (.int (1 : Int32))] [(.int (0 : Int32)), (.ref b108)]) (fun _ kx_ => XS.iconst X119.here hx rfl (hb hby at_162) kx_) ?_
                    refine W.ldi X119 hx hZ eq119 f117 0 rfl (by decide) (hb hby at_163) (pc' := 164) rfl ?_
                    rw [show ((W.up (fun _ => 0) 0 xa) 0) = xa from rfl]
                    refine W.s1 (mkF m 165 #[.val (.int x0), .val (.int xa), .val (.int xb), .val (.int xc), .val (.int xk), .val (.int (1 : Int32)), .val (.int (1 : Int32)), .val (.int o0), .val (.int o1), .val (.int o2), .val (.ref b108), .val (.ref b109), .val (.ref an), .val (.int (1 : Int32))] [(.int xa), (.int xa)]) (fun _ kx_ => XS.iloadN X119.here hx rfl (hb hby at_164) rfl kx_) ?_
                    refine W.icmp X119 hx (hb hby at_165) (pc' := 181) (pc'' := 168) (by decide) (by decide) rfl (fun (c165 : ¬ xa = xa) => ?_) (fun (c165 : xa = xa) => ?_)
                    · exact absurd rfl c165
                    · refine W.s1 (mkF m 170 #[.val (.int x0), .val (.int xa), .val (.int xb), .val (.int xc), .val (.int xk), .val (.int (1 : Int32)), .val (.int (1 : Int32)), .val (.int o0), .val (.int o1), .val (.int o2), .val (.ref b108), .val (.ref b109), .val (.ref an), .val (.int (1 : Int32))] [(.ref b109)]) (fun _ kx_ => XS.aload X119.here hx rfl (hb hby at_168) rfl rfl kx_) ?_
                      refine W.s1 (mkF m 171 #[.val (.int x0), .val (.int xa), .val (.int xb), .val (.int xc), .val (.int xk), .val (.int (1 : Int32)), .val (.int (1 : Int32)), .val (.int o0), .val (.int o1), .val (.int o2), .val (.ref b108), .val (.ref b109), .val (.ref an), .val (.int (1 : Int32))] [(.int (0 : Int32)), (.ref b109)]) (fun _ kx_ => XS.iconst X119.here hx rfl (hb hby at_170) kx_) ?_
                      refine W.ldi X119 hx hZ eq119 f118 0 rfl (by decide) (hb hby at_171) (pc' := 172) rfl ?_
                      rw [show ((W.up (fun _ => 0) 0 o0) 0) = o0 from rfl]
                      refine W.s1 (mkF m 174 #[.val (.int x0), .val (.int xa), .val (.int xb), .val (.int xc), .val (.int xk), .val (.int (1 : Int32)), .val (.int (1 : Int32)), .val (.int o0), .val (.int o1), .val (.int o2), .val (.ref b108), .val (.ref b109), .val (.ref an), .val (.int (1 : Int32))] [(.int o0), (.int o0)]) (fun _ kx_ => XS.iload X119.here hx rfl (hb hby at_172) rfl kx_) ?_
                      refine W.icmp X119 hx (hb hby at_174) (pc' := 181) (pc'' := 177) (by decide) (by decide) rfl (fun (c174 : ¬ o0 = o0) => ?_) (fun (c174 : o0 = o0) => ?_)
                      · exact absurd rfl c174
                      · refine W.s1 (mkF m 178 #[.val (.int x0), .val (.int xa), .val (.int xb), .val (.int xc), .val (.int xk), .val (.int (1 : Int32)), .val (.int (1 : Int32)), .val (.int o0), .val (.int o1), .val (.int o2), .val (.ref b108), .val (.ref b109), .val (.ref an), .val (.int (1 : Int32))] [(.int (1 : Int32))]) (fun _ kx_ => XS.iconst X119.here hx rfl (hb hby at_177) kx_) ?_
                        refine W.s1 (mkF m 182 #[.val (.int x0), .val (.int xa), .val (.int xb), .val (.int xc), .val (.int xk), .val (.int (1 : Int32)), .val (.int (1 : Int32)), .val (.int o0), .val (.int o1), .val (.int o2), .val (.ref b108), .val (.ref b109), .val (.ref an), .val (.int (1 : Int32))] [(.int (1 : Int32))]) (fun _ kx_ => XS.goto X119.here hx rfl (pc0 := 178) (pc' := 182) rfl (hb hby at_178) (by decide) (by decide) kx_) ?_
                        refine W.s1 (mkF m 184 #[.val (.int x0), .val (.int xa), .val (.int xb), .val (.int xc), .val (.int xk), .val (.int (1 : Int32)), .val (.int (1 : Int32)), .val (.int o0), .val (.int o1), .val (.int o2), .val (.ref b108), .val (.ref b109), .val (.ref an), .val (.int (1 : Int32))] []) (fun _ kx_ => XS.istore X119.here hx rfl (hb hby at_182) rfl (l' := #[.val (.int x0), .val (.int xa), .val (.int xb), .val (.int xc), .val (.int xk), .val (.int (1 : Int32)), .val (.int (1 : Int32)), .val (.int o0), .val (.int o1), .val (.int o2), .val (.ref b108), .val (.ref b109), .val (.ref an), .val (.int (1 : Int32))]) rfl kx_) ?_
                        refine W.s1 (mkF m 186 #[.val (.int x0), .val (.int xa), .val (.int xb), .val (.int xc), .val (.int xk), .val (.int (1 : Int32)), .val (.int (1 : Int32)), .val (.int o0), .val (.int o1), .val (.int o2), .val (.ref b108), .val (.ref b109), .val (.ref an), .val (.int (1 : Int32))] [(.int (1 : Int32))]) (fun _ kx_ => XS.iload X119.here hx rfl (hb hby at_184) rfl kx_) ?_
                        refine W.ifc X119 hx (hb hby at_186) (pc' := 234) (pc'' := 189) (by decide) (by decide) rfl (fun (c186 : (1 : Int32) = (0 : Int32)) => ?_) (fun (c186 : ¬ (1 : Int32) = (0 : Int32)) => ?_)
                        · exact absurd c186 (by decide)
                        · refine W.s1 (mkF m 191 #[.val (.int x0), .val (.int xa), .val (.int xb), .val (.int xc), .val (.int xk), .val (.int (1 : Int32)), .val (.int (1 : Int32)), .val (.int o0), .val (.int o1), .val (.int o2), .val (.ref b108), .val (.ref b109), .val (.ref an), .val (.int (1 : Int32))] [(.int (1 : Int32))]) (fun _ kx_ => XS.iload X119.here hx rfl (hb hby at_189) rfl kx_) ?_
                          refine W.s1 (mkF m 192 #[.val (.int x0), .val (.int xa), .val (.int xb), .val (.int xc), .val (.int xk), .val (.int (1 : Int32)), .val (.int (1 : Int32)), .val (.int o0), .val (.int o1), .val (.int o2), .val (.ref b108), .val (.ref b109), .val (.ref an), .val (.int (1 : Int32))] [(.int (1 : Int32)), (.int (1 : Int32))]) (fun _ kx_ => XS.iconst X119.here hx rfl (hb hby at_191) kx_) ?_
                          refine W.icmp X119 hx (hb hby at_192) (pc' := 234) (pc'' := 195) (by decide) (by decide) rfl (fun (c192 : ¬ (1 : Int32) < (1 : Int32)) => ?_) (fun (c192 : (1 : Int32) < (1 : Int32)) => ?_)
                          · refine W.s1 (mkF m 236 #[.val (.int x0), .val (.int xa), .val (.int xb), .val (.int xc), .val (.int xk), .val (.int (1 : Int32)), .val (.int (1 : Int32)), .val (.int o0), .val (.int o1), .val (.int o2), .val (.ref b108), .val (.ref b109), .val (.ref an), .val (.int (1 : Int32))] [(.int (1 : Int32))]) (fun _ kx_ => XS.iload X119.here hx rfl (hb hby at_234) rfl kx_) ?_
                            refine W.ifc X119 hx (hb hby at_236) (pc' := 284) (pc'' := 239) (by decide) (by decide) rfl (fun (c236 : (1 : Int32) = (0 : Int32)) => ?_) (fun (c236 : ¬ (1 : Int32) = (0 : Int32)) => ?_)
                            · exact absurd c236 (by decide)
                            · refine W.s1 (mkF m 241 #[.val (.int x0), .val (.int xa), .val (.int xb), .val (.int xc), .val (.int xk), .val (.int (1 : Int32)), .val (.int (1 : Int32)), .val (.int o0), .val (.int o1), .val (.int o2), .val (.ref b108), .val (.ref b109), .val (.ref an), .val (.int (1 : Int32))] [(.int (1 : Int32))]) (fun _ kx_ => XS.iload X119.here hx rfl (hb hby at_239) rfl kx_) ?_
                              refine W.s1 (mkF m 242 #[.val (.int x0), .val (.int xa), .val (.int xb), .val (.int xc), .val (.int xk), .val (.int (1 : Int32)), .val (.int (1 : Int32)), .val (.int o0), .val (.int o1), .val (.int o2), .val (.ref b108), .val (.ref b109), .val (.ref an), .val (.int (1 : Int32))] [(.int (2 : Int32)), (.int (1 : Int32))]) (fun _ kx_ => XS.iconst X119.here hx rfl (hb hby at_241) kx_) ?_
                              refine W.icmp X119 hx (hb hby at_242) (pc' := 284) (pc'' := 245) (by decide) (by decide) rfl (fun (c242 : ¬ (2 : Int32) < (1 : Int32)) => ?_) (fun (c242 : (2 : Int32) < (1 : Int32)) => ?_)
                              · refine W.s1 (mkF m 286 #[.val (.int x0), .val (.int xa), .val (.int xb), .val (.int xc), .val (.int xk), .val (.int (1 : Int32)), .val (.int (1 : Int32)), .val (.int o0), .val (.int o1), .val (.int o2), .val (.ref b108), .val (.ref b109), .val (.ref an), .val (.int (1 : Int32))] [(.int (1 : Int32))]) (fun _ kx_ => XS.iload X119.here hx rfl (hb hby at_284) rfl kx_) ?_
                                exact W.retZ X119 hx hlk (t := .boolean) (z' := (1 : Int32)) Bd.returns (by simp) (hb hby at_286) rfl (by show Q0 Z x0 xa xb xc xk h0 n0 _ T119.heap _; rw [eq119]; exact ⟨rfl, N119⟩) (by decide) (by decide)
                              · exact absurd c242 (by decide)
                          · exact absurd c192 (by decide)
          · exact absurd c97 (by decide)
        · exact absurd c80 (by decide)
    · exact absurd c7 (by decide)
  · refine W.s1 (mkF m 7 #[.val (.int x0), .val (.int xa), .val (.int xb), .val (.int xc), .val (.int xk), .val (.int (2 : Int32)), .unset, .unset, .unset, .unset, .unset, .unset, .unset, .unset] [(.int (2 : Int32))]) (fun _ kx_ => XS.iload X0.here hx rfl (hb hby at_5) rfl kx_) ?_
    refine W.ifc X0 hx (hb hby at_7) (pc' := 14) (pc'' := 10) (by decide) (by decide) rfl (fun (c7 : ¬ (2 : Int32) = (0 : Int32)) => ?_) (fun (c7 : (2 : Int32) = (0 : Int32)) => ?_)
    · refine W.s1 (mkF m 16 #[.val (.int x0), .val (.int xa), .val (.int xb), .val (.int xc), .val (.int xk), .val (.int (2 : Int32)), .unset, .unset, .unset, .unset, .unset, .unset, .unset, .unset] [(.int (2 : Int32))]) (fun _ kx_ => XS.iload X0.here hx rfl (hb hby at_14) rfl kx_) ?_
      refine W.s1 (mkF m 18 #[.val (.int x0), .val (.int xa), .val (.int xb), .val (.int xc), .val (.int xk), .val (.int (2 : Int32)), .val (.int (2 : Int32)), .unset, .unset, .unset, .unset, .unset, .unset, .unset] []) (fun _ kx_ => XS.istore X0.here hx rfl (hb hby at_16) rfl (l' := #[.val (.int x0), .val (.int xa), .val (.int xb), .val (.int xc), .val (.int xk), .val (.int (2 : Int32)), .val (.int (2 : Int32)), .unset, .unset, .unset, .unset, .unset, .unset, .unset]) rfl kx_) ?_
      refine W.s1 (mkF m 20 #[.val (.int x0), .val (.int xa), .val (.int xb), .val (.int xc), .val (.int xk), .val (.int (2 : Int32)), .val (.int (2 : Int32)), .unset, .unset, .unset, .unset, .unset, .unset, .unset] [(.int xk)]) (fun _ kx_ => XS.iload X0.here hx rfl (hb hby at_18) rfl kx_) ?_
      refine W.s1 (mkF m 21 #[.val (.int x0), .val (.int xa), .val (.int xb), .val (.int xc), .val (.int xk), .val (.int (2 : Int32)), .val (.int (2 : Int32)), .unset, .unset, .unset, .unset, .unset, .unset, .unset] [(.int (3 : Int32)), (.int xk)]) (fun _ kx_ => XS.iconst X0.here hx rfl (hb hby at_20) kx_) ?_
      refine W.s1 (mkF m 22 #[.val (.int x0), .val (.int xa), .val (.int xb), .val (.int xc), .val (.int xk), .val (.int (2 : Int32)), .val (.int (2 : Int32)), .unset, .unset, .unset, .unset, .unset, .unset, .unset] [(.int (xk &&& (3 : Int32)))]) (fun _ kx_ => XS.iand X0.here hx rfl (hb hby at_21) rfl kx_) ?_
      refine W.s1 (mkF m 24 #[.val (.int x0), .val (.int xa), .val (.int xb), .val (.int xc), .val (.int xk), .val (.int (2 : Int32)), .val (.int (2 : Int32)), .unset, .unset, .unset, .unset, .unset, .unset, .unset] [(.int (2 : Int32)), (.int (xk &&& (3 : Int32)))]) (fun _ kx_ => XS.iload X0.here hx rfl (hb hby at_22) rfl kx_) ?_
      refine W.s1 (mkF m 25 #[.val (.int x0), .val (.int xa), .val (.int xb), .val (.int xc), .val (.int xk), .val (.int (2 : Int32)), .val (.int (2 : Int32)), .unset, .unset, .unset, .unset, .unset, .unset, .unset] [(.int ((xk &&& (3 : Int32)) % (2 : Int32)))]) (fun _ kx_ => iremM X0 hx rfl (hb hby at_24) rfl (by decide) kx_) ?_
      generalize hg_o0 : ((xk &&& (3 : Int32)) % (2 : Int32)) = o0
      refine W.s1 (mkF m 27 #[.val (.int x0), .val (.int xa), .val (.int xb), .val (.int xc), .val (.int xk), .val (.int (2 : Int32)), .val (.int (2 : Int32)), .val (.int o0), .unset, .unset, .unset, .unset, .unset, .unset] []) (fun _ kx_ => XS.istore X0.here hx rfl (hb hby at_25) rfl (l' := #[.val (.int x0), .val (.int xa), .val (.int xb), .val (.int xc), .val (.int xk), .val (.int (2 : Int32)), .val (.int (2 : Int32)), .val (.int o0), .unset, .unset, .unset, .unset, .unset, .unset]) rfl kx_) ?_
      refine W.s1 (mkF m 29 #[.val (.int x0), .val (.int xa), .val (.int xb), .val (.int xc), .val (.int xk), .val (.int (2 : Int32)), .val (.int (2 : Int32)), .val (.int o0), .unset, .unset, .unset, .unset, .unset, .unset] [(.int xk)]) (fun _ kx_ => XS.iload X0.here hx rfl (hb hby at_27) rfl kx_) ?_
      refine W.s1 (mkF m 30 #[.val (.int x0), .val (.int xa), .val (.int xb), .val (.int xc), .val (.int xk), .val (.int (2 : Int32)), .val (.int (2 : Int32)), .val (.int o0), .unset, .unset, .unset, .unset, .unset, .unset] [(.int (2 : Int32)), (.int xk)]) (fun _ kx_ => XS.iconst X0.here hx rfl (hb hby at_29) kx_) ?_
      refine W.s1 (mkF m 31 #[.val (.int x0), .val (.int xa), .val (.int xb), .val (.int xc), .val (.int xk), .val (.int (2 : Int32)), .val (.int (2 : Int32)), .val (.int o0), .unset, .unset, .unset, .unset, .unset, .unset] [(.int ((xk.toUInt32 >>> ((2 : Int32) &&& 31).toUInt32).toInt32))]) (fun _ kx_ => XS.iushr X0.here hx rfl (hb hby at_30) rfl kx_) ?_
      refine W.s1 (mkF m 32 #[.val (.int x0), .val (.int xa), .val (.int xb), .val (.int xc), .val (.int xk), .val (.int (2 : Int32)), .val (.int (2 : Int32)), .val (.int o0), .unset, .unset, .unset, .unset, .unset, .unset] [(.int (3 : Int32)), (.int ((xk.toUInt32 >>> ((2 : Int32) &&& 31).toUInt32).toInt32))]) (fun _ kx_ => XS.iconst X0.here hx rfl (hb hby at_31) kx_) ?_
      refine W.s1 (mkF m 33 #[.val (.int x0), .val (.int xa), .val (.int xb), .val (.int xc), .val (.int xk), .val (.int (2 : Int32)), .val (.int (2 : Int32)), .val (.int o0), .unset, .unset, .unset, .unset, .unset, .unset] [(.int (((xk.toUInt32 >>> ((2 : Int32) &&& 31).toUInt32).toInt32) &&& (3 : Int32)))]) (fun _ kx_ => XS.iand X0.here hx rfl (hb hby at_32) rfl kx_) ?_
      refine W.s1 (mkF m 35 #[.val (.int x0), .val (.int xa), .val (.int xb), .val (.int xc), .val (.int xk), .val (.int (2 : Int32)), .val (.int (2 : Int32)), .val (.int o0), .unset, .unset, .unset, .unset, .unset, .unset] [(.int (2 : Int32)), (.int (((xk.toUInt32 >>> ((2 : Int32) &&& 31).toUInt32).toInt32) &&& (3 : Int32)))]) (fun _ kx_ => XS.iload X0.here hx rfl (hb hby at_33) rfl kx_) ?_
      refine W.s1 (mkF m 36 #[.val (.int x0), .val (.int xa), .val (.int xb), .val (.int xc), .val (.int xk), .val (.int (2 : Int32)), .val (.int (2 : Int32)), .val (.int o0), .unset, .unset, .unset, .unset, .unset, .unset] [(.int ((((xk.toUInt32 >>> ((2 : Int32) &&& 31).toUInt32).toInt32) &&& (3 : Int32)) % (2 : Int32)))]) (fun _ kx_ => iremM X0 hx rfl (hb hby at_35) rfl (by decide) kx_) ?_
      generalize hg_o1 : ((((xk.toUInt32 >>> ((2 : Int32) &&& 31).toUInt32).toInt32) &&& (3 : Int32)) % (2 : Int32)) = o1
      refine W.s1 (mkF m 38 #[.val (.int x0), .val (.int xa), .val (.int xb), .val (.int xc), .val (.int xk), .val (.int (2 : Int32)), .val (.int (2 : Int32)), .val (.int o0), .val (.int o1), .unset, .unset, .unset, .unset, .unset] []) (fun _ kx_ => XS.istore X0.here hx rfl (hb hby at_36) rfl (l' := #[.val (.int x0), .val (.int xa), .val (.int xb), .val (.int xc), .val (.int xk), .val (.int (2 : Int32)), .val (.int (2 : Int32)), .val (.int o0), .val (.int o1), .unset, .unset, .unset, .unset, .unset]) rfl kx_) ?_
      refine W.s1 (mkF m 40 #[.val (.int x0), .val (.int xa), .val (.int xb), .val (.int xc), .val (.int xk), .val (.int (2 : Int32)), .val (.int (2 : Int32)), .val (.int o0), .val (.int o1), .unset, .unset, .unset, .unset, .unset] [(.int xk)]) (fun _ kx_ => XS.iload X0.here hx rfl (hb hby at_38) rfl kx_) ?_
      refine W.s1 (mkF m 41 #[.val (.int x0), .val (.int xa), .val (.int xb), .val (.int xc), .val (.int xk), .val (.int (2 : Int32)), .val (.int (2 : Int32)), .val (.int o0), .val (.int o1), .unset, .unset, .unset, .unset, .unset] [(.int (4 : Int32)), (.int xk)]) (fun _ kx_ => XS.iconst X0.here hx rfl (hb hby at_40) kx_) ?_
      refine W.s1 (mkF m 42 #[.val (.int x0), .val (.int xa), .val (.int xb), .val (.int xc), .val (.int xk), .val (.int (2 : Int32)), .val (.int (2 : Int32)), .val (.int o0), .val (.int o1), .unset, .unset, .unset, .unset, .unset] [(.int ((xk.toUInt32 >>> ((4 : Int32) &&& 31).toUInt32).toInt32))]) (fun _ kx_ => XS.iushr X0.here hx rfl (hb hby at_41) rfl kx_) ?_
      refine W.s1 (mkF m 43 #[.val (.int x0), .val (.int xa), .val (.int xb), .val (.int xc), .val (.int xk), .val (.int (2 : Int32)), .val (.int (2 : Int32)), .val (.int o0), .val (.int o1), .unset, .unset, .unset, .unset, .unset] [(.int (3 : Int32)), (.int ((xk.toUInt32 >>> ((4 : Int32) &&& 31).toUInt32).toInt32))]) (fun _ kx_ => XS.iconst X0.here hx rfl (hb hby at_42) kx_) ?_
      refine W.s1 (mkF m 44 #[.val (.int x0), .val (.int xa), .val (.int xb), .val (.int xc), .val (.int xk), .val (.int (2 : Int32)), .val (.int (2 : Int32)), .val (.int o0), .val (.int o1), .unset, .unset, .unset, .unset, .unset] [(.int (((xk.toUInt32 >>> ((4 : Int32) &&& 31).toUInt32).toInt32) &&& (3 : Int32)))]) (fun _ kx_ => XS.iand X0.here hx rfl (hb hby at_43) rfl kx_) ?_
      refine W.s1 (mkF m 46 #[.val (.int x0), .val (.int xa), .val (.int xb), .val (.int xc), .val (.int xk), .val (.int (2 : Int32)), .val (.int (2 : Int32)), .val (.int o0), .val (.int o1), .unset, .unset, .unset, .unset, .unset] [(.int (2 : Int32)), (.int (((xk.toUInt32 >>> ((4 : Int32) &&& 31).toUInt32).toInt32) &&& (3 : Int32)))]) (fun _ kx_ => XS.iload X0.here hx rfl (hb hby at_44) rfl kx_) ?_
      refine W.s1 (mkF m 47 #[.val (.int x0), .val (.int xa), .val (.int xb), .val (.int xc), .val (.int xk), .val (.int (2 : Int32)), .val (.int (2 : Int32)), .val (.int o0), .val (.int o1), .unset, .unset, .unset, .unset, .unset] [(.int ((((xk.toUInt32 >>> ((4 : Int32) &&& 31).toUInt32).toInt32) &&& (3 : Int32)) % (2 : Int32)))]) (fun _ kx_ => iremM X0 hx rfl (hb hby at_46) rfl (by decide) kx_) ?_
      generalize hg_o2 : ((((xk.toUInt32 >>> ((4 : Int32) &&& 31).toUInt32).toInt32) &&& (3 : Int32)) % (2 : Int32)) = o2
      refine W.s1 (mkF m 49 #[.val (.int x0), .val (.int xa), .val (.int xb), .val (.int xc), .val (.int xk), .val (.int (2 : Int32)), .val (.int (2 : Int32)), .val (.int o0), .val (.int o1), .val (.int o2), .unset, .unset, .unset, .unset] []) (fun _ kx_ => XS.istore X0.here hx rfl (hb hby at_47) rfl (l' := #[.val (.int x0), .val (.int xa), .val (.int xb), .val (.int xc), .val (.int xk), .val (.int (2 : Int32)), .val (.int (2 : Int32)), .val (.int o0), .val (.int o1), .val (.int o2), .unset, .unset, .unset, .unset]) rfl kx_) ?_
      obtain ⟨k0, hk0, hl0⟩ : ∃ k : Nat, o0.toInt = k ∧ k < 2 := by rw [← hg_o0]; exact own_o _ 2 2 rfl (by decide)
      obtain ⟨k1, hk1, hl1⟩ : ∃ k : Nat, o1.toInt = k ∧ k < 2 := by rw [← hg_o1]; exact own_o _ 2 2 rfl (by decide)
      obtain ⟨k2, hk2, hl2⟩ : ∃ k : Nat, o2.toInt = k ∧ k < 2 := by rw [← hg_o2]; exact own_o _ 2 2 rfl (by decide)
      refine W.s1 (mkF m 51 #[.val (.int x0), .val (.int xa), .val (.int xb), .val (.int xc), .val (.int xk), .val (.int (2 : Int32)), .val (.int (2 : Int32)), .val (.int o0), .val (.int o1), .val (.int o2), .unset, .unset, .unset, .unset] [(.int (2 : Int32))]) (fun _ kx_ => XS.iload X0.here hx rfl (hb hby at_49) rfl kx_) ?_
      refine W.newi X0 hx hZ (ty := .int) (aty := .int) (hw _ (List.mem_of_getElem? (i := 0) rfl)) rfl rfl e0 (hb hby at_51) (n := 2) rfl (cap := 2) (Nat.le_refl _) (by decide) (by decide) (by decide) (pc' := 53) rfl (fun T120 h120 b120 X120 e120 E120 g120 A120 => ?_)
      have ge120 : n0 ≤ b120 := Nat.le_trans Z0 (Nat.le_of_eq g120.symm)
      have Z120 : n0 ≤ h120.size := Nat.le_trans Z0 E120.1
      refine W.s1 (mkF m 55 #[.val (.int x0), .val (.int xa), .val (.int xb), .val (.int xc), .val (.int xk), .val (.int (2 : Int32)), .val (.int (2 : Int32)), .val (.int o0), .val (.int o1), .val (.int o2), .val (.ref b120), .unset, .unset, .unset] []) (fun _ kx_ => XS.astore X120.here hx rfl (hb hby at_53) rfl rfl (l' := #[.val (.int x0), .val (.int xa), .val (.int xb), .val (.int xc), .val (.int xk), .val (.int (2 : Int32)), .val (.int (2 : Int32)), .val (.int o0), .val (.int o1), .val (.int o2), .val (.ref b120), .unset, .unset, .unset]) rfl kx_) ?_
      refine W.s1 (mkF m 57 #[.val (.int x0), .val (.int xa), .val (.int xb), .val (.int xc), .val (.int xk), .val (.int (2 : Int32)), .val (.int (2 : Int32)), .val (.int o0), .val (.int o1), .val (.int o2), .val (.ref b120), .unset, .unset, .unset] [(.int (2 : Int32))]) (fun _ kx_ => XS.iload X120.here hx rfl (hb hby at_55) rfl kx_) ?_
      refine W.newi X120 hx hZ (ty := .int) (aty := .int) (hw _ (List.mem_of_getElem? (i := 0) rfl)) rfl rfl e120 (hb hby at_57) (n := 2) rfl (cap := 2) (Nat.le_refl _) (by decide) (by decide) (by decide) (pc' := 59) rfl (fun T121 h121 b121 X121 e121 E121 g121 A121 => ?_)
      have ne122 : b120 ≠ b121 := Nat.ne_of_lt (Nat.lt_of_lt_of_le A120.lt (Nat.le_of_eq g121.symm))
      have ge121 : n0 ≤ b121 := Nat.le_trans Z120 (Nat.le_of_eq g121.symm)
      have Z121 : n0 ≤ h121.size := Nat.le_trans Z120 E121.1
      have f123 := A120.ext E121
      refine W.s1 (mkF m 61 #[.val (.int x0), .val (.int xa), .val (.int xb), .val (.int xc), .val (.int xk), .val (.int (2 : Int32)), .val (.int (2 : Int32)), .val (.int o0), .val (.int o1), .val (.int o2), .val (.ref b120), .val (.ref b121), .unset, .unset] []) (fun _ kx_ => XS.astore X121.here hx rfl (hb hby at_59) rfl rfl (l' := #[.val (.int x0), .val (.int xa), .val (.int xb), .val (.int xc), .val (.int xk), .val (.int (2 : Int32)), .val (.int (2 : Int32)), .val (.int o0), .val (.int o1), .val (.int o2), .val (.ref b120), .val (.ref b121), .unset, .unset]) rfl kx_) ?_
      refine W.s1 (mkF m 63 #[.val (.int x0), .val (.int xa), .val (.int xb), .val (.int xc), .val (.int xk), .val (.int (2 : Int32)), .val (.int (2 : Int32)), .val (.int o0), .val (.int o1), .val (.int o2), .val (.ref b120), .val (.ref b121), .unset, .unset] [(.int (2 : Int32))]) (fun _ kx_ => XS.iload X121.here hx rfl (hb hby at_61) rfl kx_) ?_
      refine W.ifc X121 hx (hb hby at_63) (pc' := 77) (pc'' := 66) (by decide) (by decide) rfl (fun (c63 : ¬ (0 : Int32) < (2 : Int32)) => ?_) (fun (c63 : (0 : Int32) < (2 : Int32)) => ?_)
      · exact absurd c63 (by decide)
      · refine W.s1 (mkF m 68 #[.val (.int x0), .val (.int xa), .val (.int xb), .val (.int xc), .val (.int xk), .val (.int (2 : Int32)), .val (.int (2 : Int32)), .val (.int o0), .val (.int o1), .val (.int o2), .val (.ref b120), .val (.ref b121), .unset, .unset] [(.ref b120)]) (fun _ kx_ => XS.aload X121.here hx rfl (hb hby at_66) rfl rfl kx_) ?_
        refine W.s1 (mkF m 69 #[.val (.int x0), .val (.int xa), .val (.int xb), .val (.int xc), .val (.int xk), .val (.int (2 : Int32)), .val (.int (2 : Int32)), .val (.int o0), .val (.int o1), .val (.int o2), .val (.ref b120), .val (.ref b121), .unset, .unset] [(.int (0 : Int32)), (.ref b120)]) (fun _ kx_ => XS.iconst X121.here hx rfl (hb hby at_68) kx_) ?_
        refine W.s1 (mkF m 70 #[.val (.int x0), .val (.int xa), .val (.int xb), .val (.int xc), .val (.int xk), .val (.int (2 : Int32)), .val (.int (2 : Int32)), .val (.int o0), .val (.int o1), .val (.int o2), .val (.ref b120), .val (.ref b121), .unset, .unset] [(.int xa), (.int (0 : Int32)), (.ref b120)]) (fun _ kx_ => XS.iloadN X121.here hx rfl (hb hby at_69) rfl kx_) ?_
        refine W.sti X121 hx hZ e121 f123 0 rfl (by decide) N0 ge120 (hb hby at_70) (pc' := 71) rfl (fun T124 h124 L124 X124 e124 W124 fw124 N124 => ?_)
        have Z124 : n0 ≤ h124.size := Nat.le_trans Z121 (Keep.of_wr W124).1
        have f125 := A121.other W124 (Ne.symm ne122)
        refine W.s1 (mkF m 73 #[.val (.int x0), .val (.int xa), .val (.int xb), .val (.int xc), .val (.int xk), .val (.int (2 : Int32)), .val (.int (2 : Int32)), .val (.int o0), .val (.int o1), .val (.int o2), .val (.ref b120), .val (.ref b121), .unset, .unset] [(.ref b121)]) (fun _ kx_ => XS.aload X124.here hx rfl (hb hby at_71) rfl rfl kx_) ?_
        refine W.s1 (mkF m 74 #[.val (.int x0), .val (.int xa), .val (.int xb), .val (.int xc), .val (.int xk), .val (.int (2 : Int32)), .val (.int (2 : Int32)), .val (.int o0), .val (.int o1), .val (.int o2), .val (.ref b120), .val (.ref b121), .unset, .unset] [(.int (0 : Int32)), (.ref b121)]) (fun _ kx_ => XS.iconst X124.here hx rfl (hb hby at_73) kx_) ?_
        refine W.s1 (mkF m 76 #[.val (.int x0), .val (.int xa), .val (.int xb), .val (.int xc), .val (.int xk), .val (.int (2 : Int32)), .val (.int (2 : Int32)), .val (.int o0), .val (.int o1), .val (.int o2), .val (.ref b120), .val (.ref b121), .unset, .unset] [(.int o0), (.int (0 : Int32)), (.ref b121)]) (fun _ kx_ => XS.iload X124.here hx rfl (hb hby at_74) rfl kx_) ?_
        refine W.sti X124 hx hZ e124 f125 0 rfl (by decide) N124 ge121 (hb hby at_76) (pc' := 77) rfl (fun T126 h126 L126 X126 e126 W126 fw126 N126 => ?_)
        have Z126 : n0 ≤ h126.size := Nat.le_trans Z124 (Keep.of_wr W126).1
        have f127 := fw124.other W126 ne122
        refine W.s1 (mkF m 79 #[.val (.int x0), .val (.int xa), .val (.int xb), .val (.int xc), .val (.int xk), .val (.int (2 : Int32)), .val (.int (2 : Int32)), .val (.int o0), .val (.int o1), .val (.int o2), .val (.ref b120), .val (.ref b121), .unset, .unset] [(.int (2 : Int32))]) (fun _ kx_ => XS.iload X126.here hx rfl (hb hby at_77) rfl kx_) ?_
        refine W.s1 (mkF m 80 #[.val (.int x0), .val (.int xa), .val (.int xb), .val (.int xc), .val (.int xk), .val (.int (2 : Int32)), .val (.int (2 : Int32)), .val (.int o0), .val (.int o1), .val (.int o2), .val (.ref b120), .val (.ref b121), .unset, .unset] [(.int (1 : Int32)), (.int (2 : Int32))]) (fun _ kx_ => XS.iconst X126.here hx rfl (hb hby at_79) kx_) ?_
        refine W.icmp X126 hx (hb hby at_80) (pc' := 94) (pc'' := 83) (by decide) (by decide) rfl (fun (c80 : ¬ (1 : Int32) < (2 : Int32)) => ?_) (fun (c80 : (1 : Int32) < (2 : Int32)) => ?_)
        · exact absurd c80 (by decide)
        · refine W.s1 (mkF m 85 #[.val (.int x0), .val (.int xa), .val (.int xb), .val (.int xc), .val (.int xk), .val (.int (2 : Int32)), .val (.int (2 : Int32)), .val (.int o0), .val (.int o1), .val (.int o2), .val (.ref b120), .val (.ref b121), .unset, .unset] [(.ref b120)]) (fun _ kx_ => XS.aload X126.here hx rfl (hb hby at_83) rfl rfl kx_) ?_
          refine W.s1 (mkF m 86 #[.val (.int x0), .val (.int xa), .val (.int xb), .val (.int xc), .val (.int xk), .val (.int (2 : Int32)), .val (.int (2 : Int32)), .val (.int o0), .val (.int o1), .val (.int o2), .val (.ref b120), .val (.ref b121), .unset, .unset] [(.int (1 : Int32)), (.ref b120)]) (fun _ kx_ => XS.iconst X126.here hx rfl (hb hby at_85) kx_) ?_
          refine W.s1 (mkF m 87 #[.val (.int x0), .val (.int xa), .val (.int xb), .val (.int xc), .val (.int xk), .val (.int (2 : Int32)), .val (.int (2 : Int32)), .val (.int o0), .val (.int o1), .val (.int o2), .val (.ref b120), .val (.ref b121), .unset, .unset] [(.int xb), (.int (1 : Int32)), (.ref b120)]) (fun _ kx_ => XS.iloadN X126.here hx rfl (hb hby at_86) rfl kx_) ?_
          refine W.sti X126 hx hZ e126 f127 1 rfl (by decide) N126 ge120 (hb hby at_87) (pc' := 88) rfl (fun T128 h128 L128 X128 e128 W128 fw128 N128 => ?_)
          have Z128 : n0 ≤ h128.size := Nat.le_trans Z126 (Keep.of_wr W128).1
          have f129 := fw126.other W128 (Ne.symm ne122)
          refine W.s1 (mkF m 90 #[.val (.int x0), .val (.int xa), .val (.int xb), .val (.int xc), .val (.int xk), .val (.int (2 : Int32)), .val (.int (2 : Int32)), .val (.int o0), .val (.int o1), .val (.int o2), .val (.ref b120), .val (.ref b121), .unset, .unset] [(.ref b121)]) (fun _ kx_ => XS.aload X128.here hx rfl (hb hby at_88) rfl rfl kx_) ?_
          refine W.s1 (mkF m 91 #[.val (.int x0), .val (.int xa), .val (.int xb), .val (.int xc), .val (.int xk), .val (.int (2 : Int32)), .val (.int (2 : Int32)), .val (.int o0), .val (.int o1), .val (.int o2), .val (.ref b120), .val (.ref b121), .unset, .unset] [(.int (1 : Int32)), (.ref b121)]) (fun _ kx_ => XS.iconst X128.here hx rfl (hb hby at_90) kx_) ?_
          refine W.s1 (mkF m 93 #[.val (.int x0), .val (.int xa), .val (.int xb), .val (.int xc), .val (.int xk), .val (.int (2 : Int32)), .val (.int (2 : Int32)), .val (.int o0), .val (.int o1), .val (.int o2), .val (.ref b120), .val (.ref b121), .unset, .unset] [(.int o1), (.int (1 : Int32)), (.ref b121)]) (fun _ kx_ => XS.iload X128.here hx rfl (hb hby at_91) rfl kx_) ?_
          refine W.sti X128 hx hZ e128 f129 1 rfl (by decide) N128 ge121 (hb hby at_93) (pc' := 94) rfl (fun T130 h130 L130 X130 e130 W130 fw130 N130 => ?_)
          have Z130 : n0 ≤ h130.size := Nat.le_trans Z128 (Keep.of_wr W130).1
          have f131 := fw128.other W130 ne122
          refine W.s1 (mkF m 96 #[.val (.int x0), .val (.int xa), .val (.int xb), .val (.int xc), .val (.int xk), .val (.int (2 : Int32)), .val (.int (2 : Int32)), .val (.int o0), .val (.int o1), .val (.int o2), .val (.ref b120), .val (.ref b121), .unset, .unset] [(.int (2 : Int32))]) (fun _ kx_ => XS.iload X130.here hx rfl (hb hby at_94) rfl kx_) ?_
          refine W.s1 (mkF m 97 #[.val (.int x0), .val (.int xa), .val (.int xb), .val (.int xc), .val (.int xk), .val (.int (2 : Int32)), .val (.int (2 : Int32)), .val (.int o0), .val (.int o1), .val (.int o2), .val (.ref b120), .val (.ref b121), .unset, .unset] [(.int (2 : Int32)), (.int (2 : Int32))]) (fun _ kx_ => XS.iconst X130.here hx rfl (hb hby at_96) kx_) ?_
          refine W.icmp X130 hx (hb hby at_97) (pc' := 111) (pc'' := 100) (by decide) (by decide) rfl (fun (c97 : ¬ (2 : Int32) < (2 : Int32)) => ?_) (fun (c97 : (2 : Int32) < (2 : Int32)) => ?_)
          · refine W.s1 (mkF m 113 #[.val (.int x0), .val (.int xa), .val (.int xb), .val (.int xc), .val (.int xk), .val (.int (2 : Int32)), .val (.int (2 : Int32)), .val (.int o0), .val (.int o1), .val (.int o2), .val (.ref b120), .val (.ref b121), .unset, .unset] [(.ref b120)]) (fun _ kx_ => XS.aload X130.here hx rfl (hb hby at_111) rfl rfl kx_) ?_
            refine W.s1 (mkF m 115 #[.val (.int x0), .val (.int xa), .val (.int xb), .val (.int xc), .val (.int xk), .val (.int (2 : Int32)), .val (.int (2 : Int32)), .val (.int o0), .val (.int o1), .val (.int o2), .val (.ref b120), .val (.ref b121), .unset, .unset] [(.ref b121), (.ref b120)]) (fun _ kx_ => XS.aload X130.here hx rfl (hb hby at_113) rfl rfl kx_) ?_
            obtain ⟨_, _, ⟨T132, L132, k132, n132⟩, -, X132, ⟨Lc132, hQ132, l132, y132, z132⟩, st132⟩ := Jvm.LawKit.callS X130 hx (y := (⟨"com/example/vertumnus/vertumnus/engine/Symmetry", "then", "([I[I)[I"⟩ : MethodName)) hown (mvT hZ (hw _ (List.mem_of_getElem? (i := 1) rfl))) (mvT hZ (hw _ (List.mem_of_getElem? (i := 2) rfl))) (mvT hZ (hw _ (List.mem_of_getElem? (i := 3) rfl))) (mvT hZ (hw _ (List.mem_of_getElem? (i := 4) rfl))) (by decide) (backOf (W := 0) (rm1 l Z a0 hw [] b120 b121 2 (2 : Int32) (W.up (W.up (fun _ => 0) 0 xa) 1 xb) (W.up (W.up (fun _ => 0) 0 o0) 1 o1) h130 n0 Z130 rfl (by decide) f131 fw130 (fun k hk => by rcases (show k = 0 ∨ k = 1 by omega) with rfl | rfl; exact ⟨k0, hk0, hl0⟩; exact ⟨k1, hk1, hl1⟩)) hZ (hw _ (List.mem_of_getElem? (i := 4) rfl)) (hw _ (List.mem_of_getElem? (i := 3) rfl)) (by decide) (by decide)) (g := (mkF m 115 #[.val (.int x0), .val (.int xa), .val (.int xb), .val (.int xc), .val (.int xk), .val (.int (2 : Int32)), .val (.int (2 : Int32)), .val (.int o0), .val (.int o1), .val (.int o2), .val (.ref b120), .val (.ref b121), .unset, .unset] [(.ref b121), (.ref b120)])) rfl (by rw [hml]; rfl) (argsL := [(.ref b120), (.ref b121)]) (rest := []) (lenOf pd_0 rfl) rfl (by show 2 * 0 + _ ≤ _; exact Nat.le_of_eq rfl) (hb hby at_115) (fun _ _ => ⟨rfl, e130, (by decide : 2 + 1 ≤ _), (by decide : 4 + 3 ≤ _)⟩)
            dsimp only [Pt.U, Pt.locs, Pt.cells, Pt.slots] at X132 l132 y132 z132 st132 hQ132
            subst l132 y132 z132
            obtain ⟨h132, e132⟩ : ∃ z, T132.heap = z := ⟨_, rfl⟩
            rw [e132] at hQ132
            obtain ⟨an, rfl, Nq132, Kq132, hge, A132⟩ := hQ132
            have N132 := Fr.app N130 Nq132
            have Z132 : n0 ≤ h132.size := Nat.le_trans Z130 Kq132.1
            have f133 := f131.keep Kq132 nin0
            have f134 := fw130.keep Kq132 nin0
            have gea : n0 ≤ an := Nat.le_trans Z130 hge
            have hp0 : own_g (W.up (W.up (fun _ => 0) 0 xa) 1 xb) (W.up (W.up (fun _ => 0) 0 o0) 1 o1) 0 = own_pick o0 xa xb xc := own_pk hk0 hl0 (by decide) (W.up (W.up (fun _ => 0) 0 xa) 1 xb) rfl (fun q => rfl) (fun q => absurd q (by decide))
            have hp1 : own_g (W.up (W.up (fun _ => 0) 0 xa) 1 xb) (W.up (W.up (fun _ => 0) 0 o0) 1 o1) 1 = own_pick o1 xa xb xc := own_pk hk1 hl1 (by decide) (W.up (W.up (fun _ => 0) 0 xa) 1 xb) rfl (fun q => rfl) (fun q => absurd q (by decide))
            refine W.s2 (mkF m 118 #[.val (.int x0), .val (.int xa), .val (.int xb), .val (.int xc), .val (.int xk), .val (.int (2 : Int32)), .val (.int (2 : Int32)), .val (.int o0), .val (.int o1), .val (.int o2), .val (.ref b120), .val (.ref b121), .unset, .unset] [(.ref an)]) st132 ?_
            refine W.s1 (mkF m 120 #[.val (.int x0), .val (.int xa), .val (.int xb), .val (.int xc), .val (.int xk), .val (.int (2 : Int32)), .val (.int (2 : Int32)), .val (.int o0), .val (.int o1), .val (.int o2), .val (.ref b120), .val (.ref b121), .val (.ref an), .unset] []) (fun _ kx_ => XS.astore X132.here hx rfl (hb hby at_118) rfl rfl (l' := #[.val (.int x0), .val (.int xa), .val (.int xb), .val (.int xc), .val (.int xk), .val (.int (2 : Int32)), .val (.int (2 : Int32)), .val (.int o0), .val (.int o1), .val (.int o2), .val (.ref b120), .val (.ref b121), .val (.ref an), .unset]) rfl kx_) ?_
            refine W.s1 (mkF m 122 #[.val (.int x0), .val (.int xa), .val (.int xb), .val (.int xc), .val (.int xk), .val (.int (2 : Int32)), .val (.int (2 : Int32)), .val (.int o0), .val (.int o1), .val (.int o2), .val (.ref b120), .val (.ref b121), .val (.ref an), .unset] [(.ref an)]) (fun _ kx_ => XS.aload X132.here hx rfl (hb hby at_120) rfl rfl kx_) ?_
            refine W.alen X132 hx hZ e132 A132 (z := (2 : Int32)) rfl (hb hby at_122) (pc' := 123) rfl ?_
            refine W.s1 (mkF m 125 #[.val (.int x0), .val (.int xa), .val (.int xb), .val (.int xc), .val (.int xk), .val (.int (2 : Int32)), .val (.int (2 : Int32)), .val (.int o0), .val (.int o1), .val (.int o2), .val (.ref b120), .val (.ref b121), .val (.ref an), .unset] [(.int (2 : Int32)), (.int (2 : Int32))]) (fun _ kx_ => XS.iload X132.here hx rfl (hb hby at_123) rfl kx_) ?_
            refine W.icmp X132 hx (hb hby at_125) (pc' := 132) (pc'' := 128) (by decide) (by decide) rfl (fun (c125 : ¬ (2 : Int32) = (2 : Int32)) => ?_) (fun (c125 : (2 : Int32) = (2 : Int32)) => ?_)
            · exact absurd c125 (by decide)
            · refine W.s1 (mkF m 129 #[.val (.int x0), .val (.int xa), .val (.int xb), .val (.int xc), .val (.int xk), .val (.int (2 : Int32)), .val (.int (2 : Int32)), .val (.int o0), .val (.int o1), .val (.int o2), .val (.ref b120), .val (.ref b121), .val (.ref an), .unset] [(.int (1 : Int32))]) (fun _ kx_ => XS.iconst X132.here hx rfl (hb hby at_128) kx_) ?_
              refine W.s1 (mkF m 133 #[.val (.int x0), .val (.int xa), .val (.int xb), .val (.int xc), .val (.int xk), .val (.int (2 : Int32)), .val (.int (2 : Int32)), .val (.int o0), .val (.int o1), .val (.int o2), .val (.ref b120), .val (.ref b121), .val (.ref an), .unset] [(.int (1 : Int32))]) (fun _ kx_ => XS.goto X132.here hx rfl (pc0 := 129) (pc' := 133) rfl (hb hby at_129) (by decide) (by decide) kx_) ?_
              refine W.s1 (mkF m 135 #[.val (.int x0), .val (.int xa), .val (.int xb), .val (.int xc), .val (.int xk), .val (.int (2 : Int32)), .val (.int (2 : Int32)), .val (.int o0), .val (.int o1), .val (.int o2), .val (.ref b120), .val (.ref b121), .val (.ref an), .val (.int (1 : Int32))] []) (fun _ kx_ => XS.istore X132.here hx rfl (hb hby at_133) rfl (l' := #[.val (.int x0), .val (.int xa), .val (.int xb), .val (.int xc), .val (.int xk), .val (.int (2 : Int32)), .val (.int (2 : Int32)), .val (.int o0), .val (.int o1), .val (.int o2), .val (.ref b120), .val (.ref b121), .val (.ref an), .val (.int (1 : Int32))]) rfl kx_) ?_
              refine W.s1 (mkF m 137 #[.val (.int x0), .val (.int xa), .val (.int xb), .val (.int xc), .val (.int xk), .val (.int (2 : Int32)), .val (.int (2 : Int32)), .val (.int o0), .val (.int o1), .val (.int o2), .val (.ref b120), .val (.ref b121), .val (.ref an), .val (.int (1 : Int32))] [(.int (1 : Int32))]) (fun _ kx_ => XS.iload X132.here hx rfl (hb hby at_135) rfl kx_) ?_
              refine W.ifc X132 hx (hb hby at_137) (pc' := 184) (pc'' := 140) (by decide) (by decide) rfl (fun (c137 : (1 : Int32) = (0 : Int32)) => ?_) (fun (c137 : ¬ (1 : Int32) = (0 : Int32)) => ?_)
              · exact absurd c137 (by decide)
              · refine W.s1 (mkF m 142 #[.val (.int x0), .val (.int xa), .val (.int xb), .val (.int xc), .val (.int xk), .val (.int (2 : Int32)), .val (.int (2 : Int32)), .val (.int o0), .val (.int o1), .val (.int o2), .val (.ref b120), .val (.ref b121), .val (.ref an), .val (.int (1 : Int32))] [(.int (2 : Int32))]) (fun _ kx_ => XS.iload X132.here hx rfl (hb hby at_140) rfl kx_) ?_
                refine W.ifc X132 hx (hb hby at_142) (pc' := 184) (pc'' := 145) (by decide) (by decide) rfl (fun (c142 : ¬ (0 : Int32) < (2 : Int32)) => ?_) (fun (c142 : (0 : Int32) < (2 : Int32)) => ?_)
                · exact absurd c142 (by decide)
                · refine W.s1 (mkF m 147 #[.val (.int x0), .val (.int xa), .val (.int xb), .val (.int xc), .val (.int xk), .val (.int (2 : Int32)), .val (.int (2 : Int32)), .val (.int o0), .val (.int o1), .val (.int o2), .val (.ref b120), .val (.ref b121), .val (.ref an), .val (.int (1 : Int32))] [(.ref an)]) (fun _ kx_ => XS.aload X132.here hx rfl (hb hby at_145) rfl rfl kx_) ?_
                  refine W.s1 (mkF m 148 #[.val (.int x0), .val (.int xa), .val (.int xb), .val (.int xc), .val (.int xk), .val (.int (2 : Int32)), .val (.int (2 : Int32)), .val (.int o0), .val (.int o1), .val (.int o2), .val (.ref b120), .val (.ref b121), .val (.ref an), .val (.int (1 : Int32))] [(.int (0 : Int32)), (.ref an)]) (fun _ kx_ => XS.iconst X132.here hx rfl (hb hby at_147) kx_) ?_
                  refine W.ldi X132 hx hZ e132 A132 0 rfl (by decide) (hb hby at_148) (pc' := 149) rfl ?_
                  rw [hp0]
                  refine W.s1 (mkF m 151 #[.val (.int x0), .val (.int xa), .val (.int xb), .val (.int xc), .val (.int xk), .val (.int (2 : Int32)), .val (.int (2 : Int32)), .val (.int o0), .val (.int o1), .val (.int o2), .val (.ref b120), .val (.ref b121), .val (.ref an), .val (.int (1 : Int32))] [(.int o0), (.int (own_pick o0 xa xb xc))]) (fun _ kx_ => XS.iload X132.here hx rfl (hb hby at_149) rfl kx_) ?_
                  refine W.s1 (mkF m 152 #[.val (.int x0), .val (.int xa), .val (.int xb), .val (.int xc), .val (.int xk), .val (.int (2 : Int32)), .val (.int (2 : Int32)), .val (.int o0), .val (.int o1), .val (.int o2), .val (.ref b120), .val (.ref b121), .val (.ref an), .val (.int (1 : Int32))] [(.int xa), (.int o0), (.int (own_pick o0 xa xb xc))]) (fun _ kx_ => XS.iloadN X132.here hx rfl (hb hby at_151) rfl kx_) ?_
                  refine W.s1 (mkF m 153 #[.val (.int x0), .val (.int xa), .val (.int xb), .val (.int xc), .val (.int xk), .val (.int (2 : Int32)), .val (.int (2 : Int32)), .val (.int o0), .val (.int o1), .val (.int o2), .val (.ref b120), .val (.ref b121), .val (.ref an), .val (.int (1 : Int32))] [(.int xb), (.int xa), (.int o0), (.int (own_pick o0 xa xb xc))]) (fun _ kx_ => XS.iloadN X132.here hx rfl (hb hby at_152) rfl kx_) ?_
                  refine W.s1 (mkF m 154 #[.val (.int x0), .val (.int xa), .val (.int xb), .val (.int xc), .val (.int xk), .val (.int (2 : Int32)), .val (.int (2 : Int32)), .val (.int o0), .val (.int o1), .val (.int o2), .val (.ref b120), .val (.ref b121), .val (.ref an), .val (.int (1 : Int32))] [(.int xc), (.int xb), (.int xa), (.int o0), (.int (own_pick o0 xa xb xc))]) (fun _ kx_ => XS.iloadN X132.here hx rfl (hb hby at_153) rfl kx_) ?_
                  obtain ⟨_, _, ⟨T135, L135, k135, n135⟩, -, X135, ⟨Lc135, hQ135, l135, y135, z135⟩, st135⟩ := Jvm.LawKit.callS X132 hx (y := (⟨"com/example/vertumnus/vertumnus/engine/SymmetryThenPinLaw", "pick", "(IIII)I"⟩ : MethodName)) hown (mvT hZ (hw _ (List.mem_of_getElem? (i := 5) rfl))) (mvT hZ (hw _ (List.mem_of_getElem? (i := 6) rfl))) (mvT hZ (hw _ (List.mem_of_getElem? (i := 7) rfl))) (mvT hZ (hw _ (List.mem_of_getElem? (i := 8) rfl))) (by decide) (backOf (W := 1) (rm2 l Z a0 hw [] o0 xa xb xc h132 n0 Z132 ) hZ (hw _ (List.mem_of_getElem? (i := 8) rfl)) (hw _ (List.mem_of_getElem? (i := 7) rfl)) (by decide) (by decide)) (g := (mkF m 154 #[.val (.int x0), .val (.int xa), .val (.int xb), .val (.int xc), .val (.int xk), .val (.int (2 : Int32)), .val (.int (2 : Int32)), .val (.int o0), .val (.int o1), .val (.int o2), .val (.ref b120), .val (.ref b121), .val (.ref an), .val (.int (1 : Int32))] [(.int xc), (.int xb), (.int xa), (.int o0), (.int (own_pick o0 xa xb xc))])) rfl (by rw [hml]; rfl) (argsL := [(.int o0), (.int xa), (.int xb), (.int xc)]) (rest := [(.int (own_pick o0 xa xb xc))]) (lenOf pd_1 rfl) rfl (by show 2 * 0 + _ ≤ _; exact Nat.le_of_eq rfl) (hb hby at_154) (fun _ _ => ⟨rfl, e132, (by decide : 3 + 0 ≤ _), (by decide : 7 + 0 ≤ _)⟩)
                  dsimp only [Pt.U, Pt.locs, Pt.cells, Pt.slots] at X135 l135 y135 z135 st135 hQ135
                  subst l135 y135 z135
                  obtain ⟨rfl, Nq135, eq135⟩ := hQ135
                  have N135 := Fr.app N132 Nq135
                  refine W.s2 (mkF m 157 #[.val (.int x0), .val (.int xa), .val (.int xb), .val (.int xc), .val (.int xk), .val (.int (2 : Int32)), .val (.int (2 : Int32)), .val (.int o0), .val (.int o1), .val (.int o2), .val (.ref b120), .val (.ref b121), .val (.ref an), .val (.int (1 : Int32))] [(.int (own_pick o0 xa xb xc)), (.int (own_pick o0 xa xb xc))]) st135 ?_
                  refine W.icmp X135 hx (hb hby at_157) (pc' := 181) (pc'' := 160) (by decide) (by decide) rfl (fun (c157 : ¬ (own_pick o0 xa xb xc) = (own_pick o0 xa xb xc)) => ?_) (fun (c157 : (own_pick o0 xa xb xc) = (own_pick o0 xa xb xc)) => ?_)
                  · exact absurd rfl c157
                  · refine W.s1 (mkF m 162 #[.val (.int x0), .val (.int xa), .val (.int xb), .val (.int xc), .val (.int xk), .val (.int (2 : Int32)), .val (.int (2 : Int32)), .val (.int o0), .val (.int o1), .val (.int o2), .val (.ref b120), .val (.ref b121), .val (.ref an), .val (.int (1 : Int32))] [(.ref b120)]) (fun _ kx_ => XS.aload X135.here hx rfl (hb hby at_160) rfl rfl kx_) ?_
                    refine W.s1 (mkF m 163 #[.val (.int x0), .val (.int xa), .val (.int xb), .val (.int xc), .val (.int xk), .val (.int (2 : Int32)), .val (.int (2 : Int32)), .val (.int o0), .val (.int o1), .val (.int o2), .val (.ref b120), .val (.ref b121), .val (.ref an), .val (.int (1 : Int32))] [(.int (0 : Int32)), (.ref b120)]) (fun _ kx_ => XS.iconst X135.here hx rfl (hb hby at_162) kx_) ?_
                    refine W.ldi X135 hx hZ eq135 f133 0 rfl (by decide) (hb hby at_163) (pc' := 164) rfl ?_
                    rw [show ((W.up (W.up (fun _ => 0) 0 xa) 1 xb) 0) = xa from rfl]
                    refine W.s1 (mkF m 165 #[.val (.int x0), .val (.int xa), .val (.int xb), .val (.int xc), .val (.int xk), .val (.int (2 : Int32)), .val (.int (2 : Int32)), .val (.int o0), .val (.int o1), .val (.int o2), .val (.ref b120), .val (.ref b121), .val (.ref an), .val (.int (1 : Int32))] [(.int xa), (.int xa)]) (fun _ kx_ => XS.iloadN X135.here hx rfl (hb hby at_164) rfl kx_) ?_
                    refine W.icmp X135 hx (hb hby at_165) (pc' := 181) (pc'' := 168) (by decide) (by decide) rfl (fun (c165 : ¬ xa = xa) => ?_) (fun (c165 : xa = xa) => ?_)
                    · exact absurd rfl c165
                    · refine W.s1 (mkF m 170 #[.val (.int x0), .val (.int xa), .val (.int xb), .val (.int xc), .val (.int xk), .val (.int (2 : Int32)), .val (.int (2 : Int32)), .val (.int o0), .val (.int o1), .val (.int o2), .val (.ref b120), .val (.ref b121), .val (.ref an), .val (.int (1 : Int32))] [(.ref b121)]) (fun _ kx_ => XS.aload X135.here hx rfl (hb hby at_168) rfl rfl kx_) ?_
                      refine W.s1 (mkF m 171 #[.val (.int x0), .val (.int xa), .val (.int xb), .val (.int xc), .val (.int xk), .val (.int (2 : Int32)), .val (.int (2 : Int32)), .val (.int o0), .val (.int o1), .val (.int o2), .val (.ref b120), .val (.ref b121), .val (.ref an), .val (.int (1 : Int32))] [(.int (0 : Int32)), (.ref b121)]) (fun _ kx_ => XS.iconst X135.here hx rfl (hb hby at_170) kx_) ?_
                      refine W.ldi X135 hx hZ eq135 f134 0 rfl (by decide) (hb hby at_171) (pc' := 172) rfl ?_
                      rw [show ((W.up (W.up (fun _ => 0) 0 o0) 1 o1) 0) = o0 from rfl]
                      refine W.s1 (mkF m 174 #[.val (.int x0), .val (.int xa), .val (.int xb), .val (.int xc), .val (.int xk), .val (.int (2 : Int32)), .val (.int (2 : Int32)), .val (.int o0), .val (.int o1), .val (.int o2), .val (.ref b120), .val (.ref b121), .val (.ref an), .val (.int (1 : Int32))] [(.int o0), (.int o0)]) (fun _ kx_ => XS.iload X135.here hx rfl (hb hby at_172) rfl kx_) ?_
                      refine W.icmp X135 hx (hb hby at_174) (pc' := 181) (pc'' := 177) (by decide) (by decide) rfl (fun (c174 : ¬ o0 = o0) => ?_) (fun (c174 : o0 = o0) => ?_)
                      · exact absurd rfl c174
                      · refine W.s1 (mkF m 178 #[.val (.int x0), .val (.int xa), .val (.int xb), .val (.int xc), .val (.int xk), .val (.int (2 : Int32)), .val (.int (2 : Int32)), .val (.int o0), .val (.int o1), .val (.int o2), .val (.ref b120), .val (.ref b121), .val (.ref an), .val (.int (1 : Int32))] [(.int (1 : Int32))]) (fun _ kx_ => XS.iconst X135.here hx rfl (hb hby at_177) kx_) ?_
                        refine W.s1 (mkF m 182 #[.val (.int x0), .val (.int xa), .val (.int xb), .val (.int xc), .val (.int xk), .val (.int (2 : Int32)), .val (.int (2 : Int32)), .val (.int o0), .val (.int o1), .val (.int o2), .val (.ref b120), .val (.ref b121), .val (.ref an), .val (.int (1 : Int32))] [(.int (1 : Int32))]) (fun _ kx_ => XS.goto X135.here hx rfl (pc0 := 178) (pc' := 182) rfl (hb hby at_178) (by decide) (by decide) kx_) ?_
                        refine W.s1 (mkF m 184 #[.val (.int x0), .val (.int xa), .val (.int xb), .val (.int xc), .val (.int xk), .val (.int (2 : Int32)), .val (.int (2 : Int32)), .val (.int o0), .val (.int o1), .val (.int o2), .val (.ref b120), .val (.ref b121), .val (.ref an), .val (.int (1 : Int32))] []) (fun _ kx_ => XS.istore X135.here hx rfl (hb hby at_182) rfl (l' := #[.val (.int x0), .val (.int xa), .val (.int xb), .val (.int xc), .val (.int xk), .val (.int (2 : Int32)), .val (.int (2 : Int32)), .val (.int o0), .val (.int o1), .val (.int o2), .val (.ref b120), .val (.ref b121), .val (.ref an), .val (.int (1 : Int32))]) rfl kx_) ?_
                        refine W.s1 (mkF m 186 #[.val (.int x0), .val (.int xa), .val (.int xb), .val (.int xc), .val (.int xk), .val (.int (2 : Int32)), .val (.int (2 : Int32)), .val (.int o0), .val (.int o1), .val (.int o2), .val (.ref b120), .val (.ref b121), .val (.ref an), .val (.int (1 : Int32))] [(.int (1 : Int32))]) (fun _ kx_ => XS.iload X135.here hx rfl (hb hby at_184) rfl kx_) ?_
                        refine W.ifc X135 hx (hb hby at_186) (pc' := 234) (pc'' := 189) (by decide) (by decide) rfl (fun (c186 : (1 : Int32) = (0 : Int32)) => ?_) (fun (c186 : ¬ (1 : Int32) = (0 : Int32)) => ?_)
                        · exact absurd c186 (by decide)
                        · refine W.s1 (mkF m 191 #[.val (.int x0), .val (.int xa), .val (.int xb), .val (.int xc), .val (.int xk), .val (.int (2 : Int32)), .val (.int (2 : Int32)), .val (.int o0), .val (.int o1), .val (.int o2), .val (.ref b120), .val (.ref b121), .val (.ref an), .val (.int (1 : Int32))] [(.int (2 : Int32))]) (fun _ kx_ => XS.iload X135.here hx rfl (hb hby at_189) rfl kx_) ?_
                          refine W.s1 (mkF m 192 #[.val (.int x0), .val (.int xa), .val (.int xb), .val (.int xc), .val (.int xk), .val (.int (2 : Int32)), .val (.int (2 : Int32)), .val (.int o0), .val (.int o1), .val (.int o2), .val (.ref b120), .val (.ref b121), .val (.ref an), .val (.int (1 : Int32))] [(.int (1 : Int32)), (.int (2 : Int32))]) (fun _ kx_ => XS.iconst X135.here hx rfl (hb hby at_191) kx_) ?_
                          refine W.icmp X135 hx (hb hby at_192) (pc' := 234) (pc'' := 195) (by decide) (by decide) rfl (fun (c192 : ¬ (1 : Int32) < (2 : Int32)) => ?_) (fun (c192 : (1 : Int32) < (2 : Int32)) => ?_)
                          · exact absurd c192 (by decide)
                          · refine W.s1 (mkF m 197 #[.val (.int x0), .val (.int xa), .val (.int xb), .val (.int xc), .val (.int xk), .val (.int (2 : Int32)), .val (.int (2 : Int32)), .val (.int o0), .val (.int o1), .val (.int o2), .val (.ref b120), .val (.ref b121), .val (.ref an), .val (.int (1 : Int32))] [(.ref an)]) (fun _ kx_ => XS.aload X135.here hx rfl (hb hby at_195) rfl rfl kx_) ?_
                            refine W.s1 (mkF m 198 #[.val (.int x0), .val (.int xa), .val (.int xb), .val (.int xc), .val (.int xk), .val (.int (2 : Int32)), .val (.int (2 : Int32)), .val (.int o0), .val (.int o1), .val (.int o2), .val (.ref b120), .val (.ref b121), .val (.ref an), .val (.int (1 : Int32))] [(.int (1 : Int32)), (.ref an)]) (fun _ kx_ => XS.iconst X135.here hx rfl (hb hby at_197) kx_) ?_
                            refine W.ldi X135 hx hZ eq135 A132 1 rfl (by decide) (hb hby at_198) (pc' := 199) rfl ?_
                            rw [hp1]
                            refine W.s1 (mkF m 201 #[.val (.int x0), .val (.int xa), .val (.int xb), .val (.int xc), .val (.int xk), .val (.int (2 : Int32)), .val (.int (2 : Int32)), .val (.int o0), .val (.int o1), .val (.int o2), .val (.ref b120), .val (.ref b121), .val (.ref an), .val (.int (1 : Int32))] [(.int o1), (.int (own_pick o1 xa xb xc))]) (fun _ kx_ => XS.iload X135.here hx rfl (hb hby at_199) rfl kx_) ?_
                            refine W.s1 (mkF m 202 #[.val (.int x0), .val (.int xa), .val (.int xb), .val (.int xc), .val (.int xk), .val (.int (2 : Int32)), .val (.int (2 : Int32)), .val (.int o0), .val (.int o1), .val (.int o2), .val (.ref b120), .val (.ref b121), .val (.ref an), .val (.int (1 : Int32))] [(.int xa), (.int o1), (.int (own_pick o1 xa xb xc))]) (fun _ kx_ => XS.iloadN X135.here hx rfl (hb hby at_201) rfl kx_) ?_
                            refine W.s1 (mkF m 203 #[.val (.int x0), .val (.int xa), .val (.int xb), .val (.int xc), .val (.int xk), .val (.int (2 : Int32)), .val (.int (2 : Int32)), .val (.int o0), .val (.int o1), .val (.int o2), .val (.ref b120), .val (.ref b121), .val (.ref an), .val (.int (1 : Int32))] [(.int xb), (.int xa), (.int o1), (.int (own_pick o1 xa xb xc))]) (fun _ kx_ => XS.iloadN X135.here hx rfl (hb hby at_202) rfl kx_) ?_
                            refine W.s1 (mkF m 204 #[.val (.int x0), .val (.int xa), .val (.int xb), .val (.int xc), .val (.int xk), .val (.int (2 : Int32)), .val (.int (2 : Int32)), .val (.int o0), .val (.int o1), .val (.int o2), .val (.ref b120), .val (.ref b121), .val (.ref an), .val (.int (1 : Int32))] [(.int xc), (.int xb), (.int xa), (.int o1), (.int (own_pick o1 xa xb xc))]) (fun _ kx_ => XS.iloadN X135.here hx rfl (hb hby at_203) rfl kx_) ?_
                            obtain ⟨_, _, ⟨T136, L136, k136, n136⟩, -, X136, ⟨Lc136, hQ136, l136, y136, z136⟩, st136⟩ := Jvm.LawKit.callS X135 hx (y := (⟨"com/example/vertumnus/vertumnus/engine/SymmetryThenPinLaw", "pick", "(IIII)I"⟩ : MethodName)) hown (mvT hZ (hw _ (List.mem_of_getElem? (i := 5) rfl))) (mvT hZ (hw _ (List.mem_of_getElem? (i := 6) rfl))) (mvT hZ (hw _ (List.mem_of_getElem? (i := 7) rfl))) (mvT hZ (hw _ (List.mem_of_getElem? (i := 8) rfl))) (by decide) (backOf (W := 1) (rm2 l Z a0 hw [] o1 xa xb xc h132 n0 Z132 ) hZ (hw _ (List.mem_of_getElem? (i := 8) rfl)) (hw _ (List.mem_of_getElem? (i := 7) rfl)) (by decide) (by decide)) (g := (mkF m 204 #[.val (.int x0), .val (.int xa), .val (.int xb), .val (.int xc), .val (.int xk), .val (.int (2 : Int32)), .val (.int (2 : Int32)), .val (.int o0), .val (.int o1), .val (.int o2), .val (.ref b120), .val (.ref b121), .val (.ref an), .val (.int (1 : Int32))] [(.int xc), (.int xb), (.int xa), (.int o1), (.int (own_pick o1 xa xb xc))])) rfl (by rw [hml]; rfl) (argsL := [(.int o1), (.int xa), (.int xb), (.int xc)]) (rest := [(.int (own_pick o1 xa xb xc))]) (lenOf pd_1 rfl) rfl (by show 2 * 0 + _ ≤ _; exact Nat.le_of_eq rfl) (hb hby at_204) (fun _ _ => ⟨rfl, eq135, (by decide : 3 + 0 ≤ _), (by decide : 7 + 0 ≤ _)⟩)
                            dsimp only [Pt.U, Pt.locs, Pt.cells, Pt.slots] at X136 l136 y136 z136 st136 hQ136
                            subst l136 y136 z136
                            obtain ⟨rfl, Nq136, eq136⟩ := hQ136
                            have N136 := Fr.app N135 Nq136
                            refine W.s2 (mkF m 207 #[.val (.int x0), .val (.int xa), .val (.int xb), .val (.int xc), .val (.int xk), .val (.int (2 : Int32)), .val (.int (2 : Int32)), .val (.int o0), .val (.int o1), .val (.int o2), .val (.ref b120), .val (.ref b121), .val (.ref an), .val (.int (1 : Int32))] [(.int (own_pick o1 xa xb xc)), (.int (own_pick o1 xa xb xc))]) st136 ?_
                            refine W.icmp X136 hx (hb hby at_207) (pc' := 231) (pc'' := 210) (by decide) (by decide) rfl (fun (c207 : ¬ (own_pick o1 xa xb xc) = (own_pick o1 xa xb xc)) => ?_) (fun (c207 : (own_pick o1 xa xb xc) = (own_pick o1 xa xb xc)) => ?_)
                            · exact absurd rfl c207
                            · refine W.s1 (mkF m 212 #[.val (.int x0), .val (.int xa), .val (.int xb), .val (.int xc), .val (.int xk), .val (.int (2 : Int32)), .val (.int (2 : Int32)), .val (.int o0), .val (.int o1), .val (.int o2), .val (.ref b120), .val (.ref b121), .val (.ref an), .val (.int (1 : Int32))] [(.ref b120)]) (fun _ kx_ => XS.aload X136.here hx rfl (hb hby at_210) rfl rfl kx_) ?_
                              refine W.s1 (mkF m 213 #[.val (.int x0), .val (.int xa), .val (.int xb), .val (.int xc), .val (.int xk), .val (.int (2 : Int32)), .val (.int (2 : Int32)), .val (.int o0), .val (.int o1), .val (.int o2), .val (.ref b120), .val (.ref b121), .val (.ref an), .val (.int (1 : Int32))] [(.int (1 : Int32)), (.ref b120)]) (fun _ kx_ => XS.iconst X136.here hx rfl (hb hby at_212) kx_) ?_
                              refine W.ldi X136 hx hZ eq136 f133 1 rfl (by decide) (hb hby at_213) (pc' := 214) rfl ?_
                              rw [show ((W.up (W.up (fun _ => 0) 0 xa) 1 xb) 1) = xb from rfl]
                              refine W.s1 (mkF m 215 #[.val (.int x0), .val (.int xa), .val (.int xb), .val (.int xc), .val (.int xk), .val (.int (2 : Int32)), .val (.int (2 : Int32)), .val (.int o0), .val (.int o1), .val (.int o2), .val (.ref b120), .val (.ref b121), .val (.ref an), .val (.int (1 : Int32))] [(.int xb), (.int xb)]) (fun _ kx_ => XS.iloadN X136.here hx rfl (hb hby at_214) rfl kx_) ?_
                              refine W.icmp X136 hx (hb hby at_215) (pc' := 231) (pc'' := 218) (by decide) (by decide) rfl (fun (c215 : ¬ xb = xb) => ?_) (fun (c215 : xb = xb) => ?_)
                              · exact absurd rfl c215
                              · refine W.s1 (mkF m 220 #[.val (.int x0), .val (.int xa), .val (.int xb), .val (.int xc), .val (.int xk), .val (.int (2 : Int32)), .val (.int (2 : Int32)), .val (.int o0), .val (.int o1), .val (.int o2), .val (.ref b120), .val (.ref b121), .val (.ref an), .val (.int (1 : Int32))] [(.ref b121)]) (fun _ kx_ => XS.aload X136.here hx rfl (hb hby at_218) rfl rfl kx_) ?_
                                refine W.s1 (mkF m 221 #[.val (.int x0), .val (.int xa), .val (.int xb), .val (.int xc), .val (.int xk), .val (.int (2 : Int32)), .val (.int (2 : Int32)), .val (.int o0), .val (.int o1), .val (.int o2), .val (.ref b120), .val (.ref b121), .val (.ref an), .val (.int (1 : Int32))] [(.int (1 : Int32)), (.ref b121)]) (fun _ kx_ => XS.iconst X136.here hx rfl (hb hby at_220) kx_) ?_
                                refine W.ldi X136 hx hZ eq136 f134 1 rfl (by decide) (hb hby at_221) (pc' := 222) rfl ?_
                                rw [show ((W.up (W.up (fun _ => 0) 0 o0) 1 o1) 1) = o1 from rfl]
                                refine W.s1 (mkF m 224 #[.val (.int x0), .val (.int xa), .val (.int xb), .val (.int xc), .val (.int xk), .val (.int (2 : Int32)), .val (.int (2 : Int32)), .val (.int o0), .val (.int o1), .val (.int o2), .val (.ref b120), .val (.ref b121), .val (.ref an), .val (.int (1 : Int32))] [(.int o1), (.int o1)]) (fun _ kx_ => XS.iload X136.here hx rfl (hb hby at_222) rfl kx_) ?_
                                refine W.icmp X136 hx (hb hby at_224) (pc' := 231) (pc'' := 227) (by decide) (by decide) rfl (fun (c224 : ¬ o1 = o1) => ?_) (fun (c224 : o1 = o1) => ?_)
                                · exact absurd rfl c224
                                · refine W.s1 (mkF m 228 #[.val (.int x0), .val (.int xa), .val (.int xb), .val (.int xc), .val (.int xk), .val (.int (2 : Int32)), .val (.int (2 : Int32)), .val (.int o0), .val (.int o1), .val (.int o2), .val (.ref b120), .val (.ref b121), .val (.ref an), .val (.int (1 : Int32))] [(.int (1 : Int32))]) (fun _ kx_ => XS.iconst X136.here hx rfl (hb hby at_227) kx_) ?_
                                  refine W.s1 (mkF m 232 #[.val (.int x0), .val (.int xa), .val (.int xb), .val (.int xc), .val (.int xk), .val (.int (2 : Int32)), .val (.int (2 : Int32)), .val (.int o0), .val (.int o1), .val (.int o2), .val (.ref b120), .val (.ref b121), .val (.ref an), .val (.int (1 : Int32))] [(.int (1 : Int32))]) (fun _ kx_ => XS.goto X136.here hx rfl (pc0 := 228) (pc' := 232) rfl (hb hby at_228) (by decide) (by decide) kx_) ?_
                                  refine W.s1 (mkF m 234 #[.val (.int x0), .val (.int xa), .val (.int xb), .val (.int xc), .val (.int xk), .val (.int (2 : Int32)), .val (.int (2 : Int32)), .val (.int o0), .val (.int o1), .val (.int o2), .val (.ref b120), .val (.ref b121), .val (.ref an), .val (.int (1 : Int32))] []) (fun _ kx_ => XS.istore X136.here hx rfl (hb hby at_232) rfl (l' := #[.val (.int x0), .val (.int xa), .val (.int xb), .val (.int xc), .val (.int xk), .val (.int (2 : Int32)), .val (.int (2 : Int32)), .val (.int o0), .val (.int o1), .val (.int o2), .val (.ref b120), .val (.ref b121), .val (.ref an), .val (.int (1 : Int32))]) rfl kx_) ?_
                                  refine W.s1 (mkF m 236 #[.val (.int x0), .val (.int xa), .val (.int xb), .val (.int xc), .val (.int xk), .val (.int (2 : Int32)), .val (.int (2 : Int32)), .val (.int o0), .val (.int o1), .val (.int o2), .val (.ref b120), .val (.ref b121), .val (.ref an), .val (.int (1 : Int32))] [(.int (1 : Int32))]) (fun _ kx_ => XS.iload X136.here hx rfl (hb hby at_234) rfl kx_) ?_
                                  refine W.ifc X136 hx (hb hby at_236) (pc' := 284) (pc'' := 239) (by decide) (by decide) rfl (fun (c236 : (1 : Int32) = (0 : Int32)) => ?_) (fun (c236 : ¬ (1 : Int32) = (0 : Int32)) => ?_)
                                  · exact absurd c236 (by decide)
                                  · refine W.s1 (mkF m 241 #[.val (.int x0), .val (.int xa), .val (.int xb), .val (.int xc), .val (.int xk), .val (.int (2 : Int32)), .val (.int (2 : Int32)), .val (.int o0), .val (.int o1), .val (.int o2), .val (.ref b120), .val (.ref b121), .val (.ref an), .val (.int (1 : Int32))] [(.int (2 : Int32))]) (fun _ kx_ => XS.iload X136.here hx rfl (hb hby at_239) rfl kx_) ?_
                                    refine W.s1 (mkF m 242 #[.val (.int x0), .val (.int xa), .val (.int xb), .val (.int xc), .val (.int xk), .val (.int (2 : Int32)), .val (.int (2 : Int32)), .val (.int o0), .val (.int o1), .val (.int o2), .val (.ref b120), .val (.ref b121), .val (.ref an), .val (.int (1 : Int32))] [(.int (2 : Int32)), (.int (2 : Int32))]) (fun _ kx_ => XS.iconst X136.here hx rfl (hb hby at_241) kx_) ?_
                                    refine W.icmp X136 hx (hb hby at_242) (pc' := 284) (pc'' := 245) (by decide) (by decide) rfl (fun (c242 : ¬ (2 : Int32) < (2 : Int32)) => ?_) (fun (c242 : (2 : Int32) < (2 : Int32)) => ?_)
                                    · refine W.s1 (mkF m 286 #[.val (.int x0), .val (.int xa), .val (.int xb), .val (.int xc), .val (.int xk), .val (.int (2 : Int32)), .val (.int (2 : Int32)), .val (.int o0), .val (.int o1), .val (.int o2), .val (.ref b120), .val (.ref b121), .val (.ref an), .val (.int (1 : Int32))] [(.int (1 : Int32))]) (fun _ kx_ => XS.iload X136.here hx rfl (hb hby at_284) rfl kx_) ?_
                                      exact W.retZ X136 hx hlk (t := .boolean) (z' := (1 : Int32)) Bd.returns (by simp) (hb hby at_286) rfl (by show Q0 Z x0 xa xb xc xk h0 n0 _ T136.heap _; rw [eq136]; exact ⟨rfl, N136⟩) (by decide) (by decide)
                                    · exact absurd c242 (by decide)
          · exact absurd c97 (by decide)
    · exact absurd c7 (by decide)
  · refine W.s1 (mkF m 7 #[.val (.int x0), .val (.int xa), .val (.int xb), .val (.int xc), .val (.int xk), .val (.int (3 : Int32)), .unset, .unset, .unset, .unset, .unset, .unset, .unset, .unset] [(.int (3 : Int32))]) (fun _ kx_ => XS.iload X0.here hx rfl (hb hby at_5) rfl kx_) ?_
    refine W.ifc X0 hx (hb hby at_7) (pc' := 14) (pc'' := 10) (by decide) (by decide) rfl (fun (c7 : ¬ (3 : Int32) = (0 : Int32)) => ?_) (fun (c7 : (3 : Int32) = (0 : Int32)) => ?_)
    · refine W.s1 (mkF m 16 #[.val (.int x0), .val (.int xa), .val (.int xb), .val (.int xc), .val (.int xk), .val (.int (3 : Int32)), .unset, .unset, .unset, .unset, .unset, .unset, .unset, .unset] [(.int (3 : Int32))]) (fun _ kx_ => XS.iload X0.here hx rfl (hb hby at_14) rfl kx_) ?_
      refine W.s1 (mkF m 18 #[.val (.int x0), .val (.int xa), .val (.int xb), .val (.int xc), .val (.int xk), .val (.int (3 : Int32)), .val (.int (3 : Int32)), .unset, .unset, .unset, .unset, .unset, .unset, .unset] []) (fun _ kx_ => XS.istore X0.here hx rfl (hb hby at_16) rfl (l' := #[.val (.int x0), .val (.int xa), .val (.int xb), .val (.int xc), .val (.int xk), .val (.int (3 : Int32)), .val (.int (3 : Int32)), .unset, .unset, .unset, .unset, .unset, .unset, .unset]) rfl kx_) ?_
      refine W.s1 (mkF m 20 #[.val (.int x0), .val (.int xa), .val (.int xb), .val (.int xc), .val (.int xk), .val (.int (3 : Int32)), .val (.int (3 : Int32)), .unset, .unset, .unset, .unset, .unset, .unset, .unset] [(.int xk)]) (fun _ kx_ => XS.iload X0.here hx rfl (hb hby at_18) rfl kx_) ?_
      refine W.s1 (mkF m 21 #[.val (.int x0), .val (.int xa), .val (.int xb), .val (.int xc), .val (.int xk), .val (.int (3 : Int32)), .val (.int (3 : Int32)), .unset, .unset, .unset, .unset, .unset, .unset, .unset] [(.int (3 : Int32)), (.int xk)]) (fun _ kx_ => XS.iconst X0.here hx rfl (hb hby at_20) kx_) ?_
      refine W.s1 (mkF m 22 #[.val (.int x0), .val (.int xa), .val (.int xb), .val (.int xc), .val (.int xk), .val (.int (3 : Int32)), .val (.int (3 : Int32)), .unset, .unset, .unset, .unset, .unset, .unset, .unset] [(.int (xk &&& (3 : Int32)))]) (fun _ kx_ => XS.iand X0.here hx rfl (hb hby at_21) rfl kx_) ?_
      refine W.s1 (mkF m 24 #[.val (.int x0), .val (.int xa), .val (.int xb), .val (.int xc), .val (.int xk), .val (.int (3 : Int32)), .val (.int (3 : Int32)), .unset, .unset, .unset, .unset, .unset, .unset, .unset] [(.int (3 : Int32)), (.int (xk &&& (3 : Int32)))]) (fun _ kx_ => XS.iload X0.here hx rfl (hb hby at_22) rfl kx_) ?_
      refine W.s1 (mkF m 25 #[.val (.int x0), .val (.int xa), .val (.int xb), .val (.int xc), .val (.int xk), .val (.int (3 : Int32)), .val (.int (3 : Int32)), .unset, .unset, .unset, .unset, .unset, .unset, .unset] [(.int ((xk &&& (3 : Int32)) % (3 : Int32)))]) (fun _ kx_ => iremM X0 hx rfl (hb hby at_24) rfl (by decide) kx_) ?_
      generalize hg_o0 : ((xk &&& (3 : Int32)) % (3 : Int32)) = o0
      refine W.s1 (mkF m 27 #[.val (.int x0), .val (.int xa), .val (.int xb), .val (.int xc), .val (.int xk), .val (.int (3 : Int32)), .val (.int (3 : Int32)), .val (.int o0), .unset, .unset, .unset, .unset, .unset, .unset] []) (fun _ kx_ => XS.istore X0.here hx rfl (hb hby at_25) rfl (l' := #[.val (.int x0), .val (.int xa), .val (.int xb), .val (.int xc), .val (.int xk), .val (.int (3 : Int32)), .val (.int (3 : Int32)), .val (.int o0), .unset, .unset, .unset, .unset, .unset, .unset]) rfl kx_) ?_
      refine W.s1 (mkF m 29 #[.val (.int x0), .val (.int xa), .val (.int xb), .val (.int xc), .val (.int xk), .val (.int (3 : Int32)), .val (.int (3 : Int32)), .val (.int o0), .unset, .unset, .unset, .unset, .unset, .unset] [(.int xk)]) (fun _ kx_ => XS.iload X0.here hx rfl (hb hby at_27) rfl kx_) ?_
      refine W.s1 (mkF m 30 #[.val (.int x0), .val (.int xa), .val (.int xb), .val (.int xc), .val (.int xk), .val (.int (3 : Int32)), .val (.int (3 : Int32)), .val (.int o0), .unset, .unset, .unset, .unset, .unset, .unset] [(.int (2 : Int32)), (.int xk)]) (fun _ kx_ => XS.iconst X0.here hx rfl (hb hby at_29) kx_) ?_
      refine W.s1 (mkF m 31 #[.val (.int x0), .val (.int xa), .val (.int xb), .val (.int xc), .val (.int xk), .val (.int (3 : Int32)), .val (.int (3 : Int32)), .val (.int o0), .unset, .unset, .unset, .unset, .unset, .unset] [(.int ((xk.toUInt32 >>> ((2 : Int32) &&& 31).toUInt32).toInt32))]) (fun _ kx_ => XS.iushr X0.here hx rfl (hb hby at_30) rfl kx_) ?_
      refine W.s1 (mkF m 32 #[.val (.int x0), .val (.int xa), .val (.int xb), .val (.int xc), .val (.int xk), .val (.int (3 : Int32)), .val (.int (3 : Int32)), .val (.int o0), .unset, .unset, .unset, .unset, .unset, .unset] [(.int (3 : Int32)), (.int ((xk.toUInt32 >>> ((2 : Int32) &&& 31).toUInt32).toInt32))]) (fun _ kx_ => XS.iconst X0.here hx rfl (hb hby at_31) kx_) ?_
      refine W.s1 (mkF m 33 #[.val (.int x0), .val (.int xa), .val (.int xb), .val (.int xc), .val (.int xk), .val (.int (3 : Int32)), .val (.int (3 : Int32)), .val (.int o0), .unset, .unset, .unset, .unset, .unset, .unset] [(.int (((xk.toUInt32 >>> ((2 : Int32) &&& 31).toUInt32).toInt32) &&& (3 : Int32)))]) (fun _ kx_ => XS.iand X0.here hx rfl (hb hby at_32) rfl kx_) ?_
      refine W.s1 (mkF m 35 #[.val (.int x0), .val (.int xa), .val (.int xb), .val (.int xc), .val (.int xk), .val (.int (3 : Int32)), .val (.int (3 : Int32)), .val (.int o0), .unset, .unset, .unset, .unset, .unset, .unset] [(.int (3 : Int32)), (.int (((xk.toUInt32 >>> ((2 : Int32) &&& 31).toUInt32).toInt32) &&& (3 : Int32)))]) (fun _ kx_ => XS.iload X0.here hx rfl (hb hby at_33) rfl kx_) ?_
      refine W.s1 (mkF m 36 #[.val (.int x0), .val (.int xa), .val (.int xb), .val (.int xc), .val (.int xk), .val (.int (3 : Int32)), .val (.int (3 : Int32)), .val (.int o0), .unset, .unset, .unset, .unset, .unset, .unset] [(.int ((((xk.toUInt32 >>> ((2 : Int32) &&& 31).toUInt32).toInt32) &&& (3 : Int32)) % (3 : Int32)))]) (fun _ kx_ => iremM X0 hx rfl (hb hby at_35) rfl (by decide) kx_) ?_
      generalize hg_o1 : ((((xk.toUInt32 >>> ((2 : Int32) &&& 31).toUInt32).toInt32) &&& (3 : Int32)) % (3 : Int32)) = o1
      refine W.s1 (mkF m 38 #[.val (.int x0), .val (.int xa), .val (.int xb), .val (.int xc), .val (.int xk), .val (.int (3 : Int32)), .val (.int (3 : Int32)), .val (.int o0), .val (.int o1), .unset, .unset, .unset, .unset, .unset] []) (fun _ kx_ => XS.istore X0.here hx rfl (hb hby at_36) rfl (l' := #[.val (.int x0), .val (.int xa), .val (.int xb), .val (.int xc), .val (.int xk), .val (.int (3 : Int32)), .val (.int (3 : Int32)), .val (.int o0), .val (.int o1), .unset, .unset, .unset, .unset, .unset]) rfl kx_) ?_
      refine W.s1 (mkF m 40 #[.val (.int x0), .val (.int xa), .val (.int xb), .val (.int xc), .val (.int xk), .val (.int (3 : Int32)), .val (.int (3 : Int32)), .val (.int o0), .val (.int o1), .unset, .unset, .unset, .unset, .unset] [(.int xk)]) (fun _ kx_ => XS.iload X0.here hx rfl (hb hby at_38) rfl kx_) ?_
      refine W.s1 (mkF m 41 #[.val (.int x0), .val (.int xa), .val (.int xb), .val (.int xc), .val (.int xk), .val (.int (3 : Int32)), .val (.int (3 : Int32)), .val (.int o0), .val (.int o1), .unset, .unset, .unset, .unset, .unset] [(.int (4 : Int32)), (.int xk)]) (fun _ kx_ => XS.iconst X0.here hx rfl (hb hby at_40) kx_) ?_
      refine W.s1 (mkF m 42 #[.val (.int x0), .val (.int xa), .val (.int xb), .val (.int xc), .val (.int xk), .val (.int (3 : Int32)), .val (.int (3 : Int32)), .val (.int o0), .val (.int o1), .unset, .unset, .unset, .unset, .unset] [(.int ((xk.toUInt32 >>> ((4 : Int32) &&& 31).toUInt32).toInt32))]) (fun _ kx_ => XS.iushr X0.here hx rfl (hb hby at_41) rfl kx_) ?_
      refine W.s1 (mkF m 43 #[.val (.int x0), .val (.int xa), .val (.int xb), .val (.int xc), .val (.int xk), .val (.int (3 : Int32)), .val (.int (3 : Int32)), .val (.int o0), .val (.int o1), .unset, .unset, .unset, .unset, .unset] [(.int (3 : Int32)), (.int ((xk.toUInt32 >>> ((4 : Int32) &&& 31).toUInt32).toInt32))]) (fun _ kx_ => XS.iconst X0.here hx rfl (hb hby at_42) kx_) ?_
      refine W.s1 (mkF m 44 #[.val (.int x0), .val (.int xa), .val (.int xb), .val (.int xc), .val (.int xk), .val (.int (3 : Int32)), .val (.int (3 : Int32)), .val (.int o0), .val (.int o1), .unset, .unset, .unset, .unset, .unset] [(.int (((xk.toUInt32 >>> ((4 : Int32) &&& 31).toUInt32).toInt32) &&& (3 : Int32)))]) (fun _ kx_ => XS.iand X0.here hx rfl (hb hby at_43) rfl kx_) ?_
      refine W.s1 (mkF m 46 #[.val (.int x0), .val (.int xa), .val (.int xb), .val (.int xc), .val (.int xk), .val (.int (3 : Int32)), .val (.int (3 : Int32)), .val (.int o0), .val (.int o1), .unset, .unset, .unset, .unset, .unset] [(.int (3 : Int32)), (.int (((xk.toUInt32 >>> ((4 : Int32) &&& 31).toUInt32).toInt32) &&& (3 : Int32)))]) (fun _ kx_ => XS.iload X0.here hx rfl (hb hby at_44) rfl kx_) ?_
      refine W.s1 (mkF m 47 #[.val (.int x0), .val (.int xa), .val (.int xb), .val (.int xc), .val (.int xk), .val (.int (3 : Int32)), .val (.int (3 : Int32)), .val (.int o0), .val (.int o1), .unset, .unset, .unset, .unset, .unset] [(.int ((((xk.toUInt32 >>> ((4 : Int32) &&& 31).toUInt32).toInt32) &&& (3 : Int32)) % (3 : Int32)))]) (fun _ kx_ => iremM X0 hx rfl (hb hby at_46) rfl (by decide) kx_) ?_
      generalize hg_o2 : ((((xk.toUInt32 >>> ((4 : Int32) &&& 31).toUInt32).toInt32) &&& (3 : Int32)) % (3 : Int32)) = o2
      refine W.s1 (mkF m 49 #[.val (.int x0), .val (.int xa), .val (.int xb), .val (.int xc), .val (.int xk), .val (.int (3 : Int32)), .val (.int (3 : Int32)), .val (.int o0), .val (.int o1), .val (.int o2), .unset, .unset, .unset, .unset] []) (fun _ kx_ => XS.istore X0.here hx rfl (hb hby at_47) rfl (l' := #[.val (.int x0), .val (.int xa), .val (.int xb), .val (.int xc), .val (.int xk), .val (.int (3 : Int32)), .val (.int (3 : Int32)), .val (.int o0), .val (.int o1), .val (.int o2), .unset, .unset, .unset, .unset]) rfl kx_) ?_
      obtain ⟨k0, hk0, hl0⟩ : ∃ k : Nat, o0.toInt = k ∧ k < 3 := by rw [← hg_o0]; exact own_o _ 3 3 rfl (by decide)
      obtain ⟨k1, hk1, hl1⟩ : ∃ k : Nat, o1.toInt = k ∧ k < 3 := by rw [← hg_o1]; exact own_o _ 3 3 rfl (by decide)
      obtain ⟨k2, hk2, hl2⟩ : ∃ k : Nat, o2.toInt = k ∧ k < 3 := by rw [← hg_o2]; exact own_o _ 3 3 rfl (by decide)
      refine W.s1 (mkF m 51 #[.val (.int x0), .val (.int xa), .val (.int xb), .val (.int xc), .val (.int xk), .val (.int (3 : Int32)), .val (.int (3 : Int32)), .val (.int o0), .val (.int o1), .val (.int o2), .unset, .unset, .unset, .unset] [(.int (3 : Int32))]) (fun _ kx_ => XS.iload X0.here hx rfl (hb hby at_49) rfl kx_) ?_
      refine W.newi X0 hx hZ (ty := .int) (aty := .int) (hw _ (List.mem_of_getElem? (i := 0) rfl)) rfl rfl e0 (hb hby at_51) (n := 3) rfl (cap := 3) (Nat.le_refl _) (by decide) (by decide) (by decide) (pc' := 53) rfl (fun T137 h137 b137 X137 e137 E137 g137 A137 => ?_)
      have ge137 : n0 ≤ b137 := Nat.le_trans Z0 (Nat.le_of_eq g137.symm)
      have Z137 : n0 ≤ h137.size := Nat.le_trans Z0 E137.1
      refine W.s1 (mkF m 55 #[.val (.int x0), .val (.int xa), .val (.int xb), .val (.int xc), .val (.int xk), .val (.int (3 : Int32)), .val (.int (3 : Int32)), .val (.int o0), .val (.int o1), .val (.int o2), .val (.ref b137), .unset, .unset, .unset] []) (fun _ kx_ => XS.astore X137.here hx rfl (hb hby at_53) rfl rfl (l' := #[.val (.int x0), .val (.int xa), .val (.int xb), .val (.int xc), .val (.int xk), .val (.int (3 : Int32)), .val (.int (3 : Int32)), .val (.int o0), .val (.int o1), .val (.int o2), .val (.ref b137), .unset, .unset, .unset]) rfl kx_) ?_
      refine W.s1 (mkF m 57 #[.val (.int x0), .val (.int xa), .val (.int xb), .val (.int xc), .val (.int xk), .val (.int (3 : Int32)), .val (.int (3 : Int32)), .val (.int o0), .val (.int o1), .val (.int o2), .val (.ref b137), .unset, .unset, .unset] [(.int (3 : Int32))]) (fun _ kx_ => XS.iload X137.here hx rfl (hb hby at_55) rfl kx_) ?_
      refine W.newi X137 hx hZ (ty := .int) (aty := .int) (hw _ (List.mem_of_getElem? (i := 0) rfl)) rfl rfl e137 (hb hby at_57) (n := 3) rfl (cap := 3) (Nat.le_refl _) (by decide) (by decide) (by decide) (pc' := 59) rfl (fun T138 h138 b138 X138 e138 E138 g138 A138 => ?_)
      have ne139 : b137 ≠ b138 := Nat.ne_of_lt (Nat.lt_of_lt_of_le A137.lt (Nat.le_of_eq g138.symm))
      have ge138 : n0 ≤ b138 := Nat.le_trans Z137 (Nat.le_of_eq g138.symm)
      have Z138 : n0 ≤ h138.size := Nat.le_trans Z137 E138.1
      have f140 := A137.ext E138
      refine W.s1 (mkF m 61 #[.val (.int x0), .val (.int xa), .val (.int xb), .val (.int xc), .val (.int xk), .val (.int (3 : Int32)), .val (.int (3 : Int32)), .val (.int o0), .val (.int o1), .val (.int o2), .val (.ref b137), .val (.ref b138), .unset, .unset] []) (fun _ kx_ => XS.astore X138.here hx rfl (hb hby at_59) rfl rfl (l' := #[.val (.int x0), .val (.int xa), .val (.int xb), .val (.int xc), .val (.int xk), .val (.int (3 : Int32)), .val (.int (3 : Int32)), .val (.int o0), .val (.int o1), .val (.int o2), .val (.ref b137), .val (.ref b138), .unset, .unset]) rfl kx_) ?_
      refine W.s1 (mkF m 63 #[.val (.int x0), .val (.int xa), .val (.int xb), .val (.int xc), .val (.int xk), .val (.int (3 : Int32)), .val (.int (3 : Int32)), .val (.int o0), .val (.int o1), .val (.int o2), .val (.ref b137), .val (.ref b138), .unset, .unset] [(.int (3 : Int32))]) (fun _ kx_ => XS.iload X138.here hx rfl (hb hby at_61) rfl kx_) ?_
      refine W.ifc X138 hx (hb hby at_63) (pc' := 77) (pc'' := 66) (by decide) (by decide) rfl (fun (c63 : ¬ (0 : Int32) < (3 : Int32)) => ?_) (fun (c63 : (0 : Int32) < (3 : Int32)) => ?_)
      · exact absurd c63 (by decide)
      · refine W.s1 (mkF m 68 #[.val (.int x0), .val (.int xa), .val (.int xb), .val (.int xc), .val (.int xk), .val (.int (3 : Int32)), .val (.int (3 : Int32)), .val (.int o0), .val (.int o1), .val (.int o2), .val (.ref b137), .val (.ref b138), .unset, .unset] [(.ref b137)]) (fun _ kx_ => XS.aload X138.here hx rfl (hb hby at_66) rfl rfl kx_) ?_
        refine W.s1 (mkF m 69 #[.val (.int x0), .val (.int xa), .val (.int xb), .val (.int xc), .val (.int xk), .val (.int (3 : Int32)), .val (.int (3 : Int32)), .val (.int o0), .val (.int o1), .val (.int o2), .val (.ref b137), .val (.ref b138), .unset, .unset] [(.int (0 : Int32)), (.ref b137)]) (fun _ kx_ => XS.iconst X138.here hx rfl (hb hby at_68) kx_) ?_
        refine W.s1 (mkF m 70 #[.val (.int x0), .val (.int xa), .val (.int xb), .val (.int xc), .val (.int xk), .val (.int (3 : Int32)), .val (.int (3 : Int32)), .val (.int o0), .val (.int o1), .val (.int o2), .val (.ref b137), .val (.ref b138), .unset, .unset] [(.int xa), (.int (0 : Int32)), (.ref b137)]) (fun _ kx_ => XS.iloadN X138.here hx rfl (hb hby at_69) rfl kx_) ?_
        refine W.sti X138 hx hZ e138 f140 0 rfl (by decide) N0 ge137 (hb hby at_70) (pc' := 71) rfl (fun T141 h141 L141 X141 e141 W141 fw141 N141 => ?_)
        have Z141 : n0 ≤ h141.size := Nat.le_trans Z138 (Keep.of_wr W141).1
        have f142 := A138.other W141 (Ne.symm ne139)
        refine W.s1 (mkF m 73 #[.val (.int x0), .val (.int xa), .val (.int xb), .val (.int xc), .val (.int xk), .val (.int (3 : Int32)), .val (.int (3 : Int32)), .val (.int o0), .val (.int o1), .val (.int o2), .val (.ref b137), .val (.ref b138), .unset, .unset] [(.ref b138)]) (fun _ kx_ => XS.aload X141.here hx rfl (hb hby at_71) rfl rfl kx_) ?_
        refine W.s1 (mkF m 74 #[.val (.int x0), .val (.int xa), .val (.int xb), .val (.int xc), .val (.int xk), .val (.int (3 : Int32)), .val (.int (3 : Int32)), .val (.int o0), .val (.int o1), .val (.int o2), .val (.ref b137), .val (.ref b138), .unset, .unset] [(.int (0 : Int32)), (.ref b138)]) (fun _ kx_ => XS.iconst X141.here hx rfl (hb hby at_73) kx_) ?_
        refine W.s1 (mkF m 76 #[.val (.int x0), .val (.int xa), .val (.int xb), .val (.int xc), .val (.int xk), .val (.int (3 : Int32)), .val (.int (3 : Int32)), .val (.int o0), .val (.int o1), .val (.int o2), .val (.ref b137), .val (.ref b138), .unset, .unset] [(.int o0), (.int (0 : Int32)), (.ref b138)]) (fun _ kx_ => XS.iload X141.here hx rfl (hb hby at_74) rfl kx_) ?_
        refine W.sti X141 hx hZ e141 f142 0 rfl (by decide) N141 ge138 (hb hby at_76) (pc' := 77) rfl (fun T143 h143 L143 X143 e143 W143 fw143 N143 => ?_)
        have Z143 : n0 ≤ h143.size := Nat.le_trans Z141 (Keep.of_wr W143).1
        have f144 := fw141.other W143 ne139
        refine W.s1 (mkF m 79 #[.val (.int x0), .val (.int xa), .val (.int xb), .val (.int xc), .val (.int xk), .val (.int (3 : Int32)), .val (.int (3 : Int32)), .val (.int o0), .val (.int o1), .val (.int o2), .val (.ref b137), .val (.ref b138), .unset, .unset] [(.int (3 : Int32))]) (fun _ kx_ => XS.iload X143.here hx rfl (hb hby at_77) rfl kx_) ?_
        refine W.s1 (mkF m 80 #[.val (.int x0), .val (.int xa), .val (.int xb), .val (.int xc), .val (.int xk), .val (.int (3 : Int32)), .val (.int (3 : Int32)), .val (.int o0), .val (.int o1), .val (.int o2), .val (.ref b137), .val (.ref b138), .unset, .unset] [(.int (1 : Int32)), (.int (3 : Int32))]) (fun _ kx_ => XS.iconst X143.here hx rfl (hb hby at_79) kx_) ?_
        refine W.icmp X143 hx (hb hby at_80) (pc' := 94) (pc'' := 83) (by decide) (by decide) rfl (fun (c80 : ¬ (1 : Int32) < (3 : Int32)) => ?_) (fun (c80 : (1 : Int32) < (3 : Int32)) => ?_)
        · exact absurd c80 (by decide)
        · refine W.s1 (mkF m 85 #[.val (.int x0), .val (.int xa), .val (.int xb), .val (.int xc), .val (.int xk), .val (.int (3 : Int32)), .val (.int (3 : Int32)), .val (.int o0), .val (.int o1), .val (.int o2), .val (.ref b137), .val (.ref b138), .unset, .unset] [(.ref b137)]) (fun _ kx_ => XS.aload X143.here hx rfl (hb hby at_83) rfl rfl kx_) ?_
          refine W.s1 (mkF m 86 #[.val (.int x0), .val (.int xa), .val (.int xb), .val (.int xc), .val (.int xk), .val (.int (3 : Int32)), .val (.int (3 : Int32)), .val (.int o0), .val (.int o1), .val (.int o2), .val (.ref b137), .val (.ref b138), .unset, .unset] [(.int (1 : Int32)), (.ref b137)]) (fun _ kx_ => XS.iconst X143.here hx rfl (hb hby at_85) kx_) ?_
          refine W.s1 (mkF m 87 #[.val (.int x0), .val (.int xa), .val (.int xb), .val (.int xc), .val (.int xk), .val (.int (3 : Int32)), .val (.int (3 : Int32)), .val (.int o0), .val (.int o1), .val (.int o2), .val (.ref b137), .val (.ref b138), .unset, .unset] [(.int xb), (.int (1 : Int32)), (.ref b137)]) (fun _ kx_ => XS.iloadN X143.here hx rfl (hb hby at_86) rfl kx_) ?_
          refine W.sti X143 hx hZ e143 f144 1 rfl (by decide) N143 ge137 (hb hby at_87) (pc' := 88) rfl (fun T145 h145 L145 X145 e145 W145 fw145 N145 => ?_)
          have Z145 : n0 ≤ h145.size := Nat.le_trans Z143 (Keep.of_wr W145).1
          have f146 := fw143.other W145 (Ne.symm ne139)
          refine W.s1 (mkF m 90 #[.val (.int x0), .val (.int xa), .val (.int xb), .val (.int xc), .val (.int xk), .val (.int (3 : Int32)), .val (.int (3 : Int32)), .val (.int o0), .val (.int o1), .val (.int o2), .val (.ref b137), .val (.ref b138), .unset, .unset] [(.ref b138)]) (fun _ kx_ => XS.aload X145.here hx rfl (hb hby at_88) rfl rfl kx_) ?_
          refine W.s1 (mkF m 91 #[.val (.int x0), .val (.int xa), .val (.int xb), .val (.int xc), .val (.int xk), .val (.int (3 : Int32)), .val (.int (3 : Int32)), .val (.int o0), .val (.int o1), .val (.int o2), .val (.ref b137), .val (.ref b138), .unset, .unset] [(.int (1 : Int32)), (.ref b138)]) (fun _ kx_ => XS.iconst X145.here hx rfl (hb hby at_90) kx_) ?_
          refine W.s1 (mkF m 93 #[.val (.int x0), .val (.int xa), .val (.int xb), .val (.int xc), .val (.int xk), .val (.int (3 : Int32)), .val (.int (3 : Int32)), .val (.int o0), .val (.int o1), .val (.int o2), .val (.ref b137), .val (.ref b138), .unset, .unset] [(.int o1), (.int (1 : Int32)), (.ref b138)]) (fun _ kx_ => XS.iload X145.here hx rfl (hb hby at_91) rfl kx_) ?_
          refine W.sti X145 hx hZ e145 f146 1 rfl (by decide) N145 ge138 (hb hby at_93) (pc' := 94) rfl (fun T147 h147 L147 X147 e147 W147 fw147 N147 => ?_)
          have Z147 : n0 ≤ h147.size := Nat.le_trans Z145 (Keep.of_wr W147).1
          have f148 := fw145.other W147 ne139
          refine W.s1 (mkF m 96 #[.val (.int x0), .val (.int xa), .val (.int xb), .val (.int xc), .val (.int xk), .val (.int (3 : Int32)), .val (.int (3 : Int32)), .val (.int o0), .val (.int o1), .val (.int o2), .val (.ref b137), .val (.ref b138), .unset, .unset] [(.int (3 : Int32))]) (fun _ kx_ => XS.iload X147.here hx rfl (hb hby at_94) rfl kx_) ?_
          refine W.s1 (mkF m 97 #[.val (.int x0), .val (.int xa), .val (.int xb), .val (.int xc), .val (.int xk), .val (.int (3 : Int32)), .val (.int (3 : Int32)), .val (.int o0), .val (.int o1), .val (.int o2), .val (.ref b137), .val (.ref b138), .unset, .unset] [(.int (2 : Int32)), (.int (3 : Int32))]) (fun _ kx_ => XS.iconst X147.here hx rfl (hb hby at_96) kx_) ?_
          refine W.icmp X147 hx (hb hby at_97) (pc' := 111) (pc'' := 100) (by decide) (by decide) rfl (fun (c97 : ¬ (2 : Int32) < (3 : Int32)) => ?_) (fun (c97 : (2 : Int32) < (3 : Int32)) => ?_)
          · exact absurd c97 (by decide)
          · refine W.s1 (mkF m 102 #[.val (.int x0), .val (.int xa), .val (.int xb), .val (.int xc), .val (.int xk), .val (.int (3 : Int32)), .val (.int (3 : Int32)), .val (.int o0), .val (.int o1), .val (.int o2), .val (.ref b137), .val (.ref b138), .unset, .unset] [(.ref b137)]) (fun _ kx_ => XS.aload X147.here hx rfl (hb hby at_100) rfl rfl kx_) ?_
            refine W.s1 (mkF m 103 #[.val (.int x0), .val (.int xa), .val (.int xb), .val (.int xc), .val (.int xk), .val (.int (3 : Int32)), .val (.int (3 : Int32)), .val (.int o0), .val (.int o1), .val (.int o2), .val (.ref b137), .val (.ref b138), .unset, .unset] [(.int (2 : Int32)), (.ref b137)]) (fun _ kx_ => XS.iconst X147.here hx rfl (hb hby at_102) kx_) ?_
            refine W.s1 (mkF m 104 #[.val (.int x0), .val (.int xa), .val (.int xb), .val (.int xc), .val (.int xk), .val (.int (3 : Int32)), .val (.int (3 : Int32)), .val (.int o0), .val (.int o1), .val (.int o2), .val (.ref b137), .val (.ref b138), .unset, .unset] [(.int xc), (.int (2 : Int32)), (.ref b137)]) (fun _ kx_ => XS.iloadN X147.here hx rfl (hb hby at_103) rfl kx_) ?_
            refine W.sti X147 hx hZ e147 f148 2 rfl (by decide) N147 ge137 (hb hby at_104) (pc' := 105) rfl (fun T149 h149 L149 X149 e149 W149 fw149 N149 => ?_)
            have Z149 : n0 ≤ h149.size := Nat.le_trans Z147 (Keep.of_wr W149).1
            have f150 := fw147.other W149 (Ne.symm ne139)
            refine W.s1 (mkF m 107 #[.val (.int x0), .val (.int xa), .val (.int xb), .val (.int xc), .val (.int xk), .val (.int (3 : Int32)), .val (.int (3 : Int32)), .val (.int o0), .val (.int o1), .val (.int o2), .val (.ref b137), .val (.ref b138), .unset, .unset] [(.ref b138)]) (fun _ kx_ => XS.aload X149.here hx rfl (hb hby at_105) rfl rfl kx_) ?_
            refine W.s1 (mkF m 108 #[.val (.int x0), .val (.int xa), .val (.int xb), .val (.int xc), .val (.int xk), .val (.int (3 : Int32)), .val (.int (3 : Int32)), .val (.int o0), .val (.int o1), .val (.int o2), .val (.ref b137), .val (.ref b138), .unset, .unset] [(.int (2 : Int32)), (.ref b138)]) (fun _ kx_ => XS.iconst X149.here hx rfl (hb hby at_107) kx_) ?_
            refine W.s1 (mkF m 110 #[.val (.int x0), .val (.int xa), .val (.int xb), .val (.int xc), .val (.int xk), .val (.int (3 : Int32)), .val (.int (3 : Int32)), .val (.int o0), .val (.int o1), .val (.int o2), .val (.ref b137), .val (.ref b138), .unset, .unset] [(.int o2), (.int (2 : Int32)), (.ref b138)]) (fun _ kx_ => XS.iload X149.here hx rfl (hb hby at_108) rfl kx_) ?_
            refine W.sti X149 hx hZ e149 f150 2 rfl (by decide) N149 ge138 (hb hby at_110) (pc' := 111) rfl (fun T151 h151 L151 X151 e151 W151 fw151 N151 => ?_)
            have Z151 : n0 ≤ h151.size := Nat.le_trans Z149 (Keep.of_wr W151).1
            have f152 := fw149.other W151 ne139
            refine W.s1 (mkF m 113 #[.val (.int x0), .val (.int xa), .val (.int xb), .val (.int xc), .val (.int xk), .val (.int (3 : Int32)), .val (.int (3 : Int32)), .val (.int o0), .val (.int o1), .val (.int o2), .val (.ref b137), .val (.ref b138), .unset, .unset] [(.ref b137)]) (fun _ kx_ => XS.aload X151.here hx rfl (hb hby at_111) rfl rfl kx_) ?_
            refine W.s1 (mkF m 115 #[.val (.int x0), .val (.int xa), .val (.int xb), .val (.int xc), .val (.int xk), .val (.int (3 : Int32)), .val (.int (3 : Int32)), .val (.int o0), .val (.int o1), .val (.int o2), .val (.ref b137), .val (.ref b138), .unset, .unset] [(.ref b138), (.ref b137)]) (fun _ kx_ => XS.aload X151.here hx rfl (hb hby at_113) rfl rfl kx_) ?_
            obtain ⟨_, _, ⟨T153, L153, k153, n153⟩, -, X153, ⟨Lc153, hQ153, l153, y153, z153⟩, st153⟩ := Jvm.LawKit.callS X151 hx (y := (⟨"com/example/vertumnus/vertumnus/engine/Symmetry", "then", "([I[I)[I"⟩ : MethodName)) hown (mvT hZ (hw _ (List.mem_of_getElem? (i := 1) rfl))) (mvT hZ (hw _ (List.mem_of_getElem? (i := 2) rfl))) (mvT hZ (hw _ (List.mem_of_getElem? (i := 3) rfl))) (mvT hZ (hw _ (List.mem_of_getElem? (i := 4) rfl))) (by decide) (backOf (W := 0) (rm1 l Z a0 hw [] b137 b138 3 (3 : Int32) (W.up (W.up (W.up (fun _ => 0) 0 xa) 1 xb) 2 xc) (W.up (W.up (W.up (fun _ => 0) 0 o0) 1 o1) 2 o2) h151 n0 Z151 rfl (by decide) f152 fw151 (fun k hk => by rcases (show k = 0 ∨ k = 1 ∨ k = 2 by omega) with rfl | rfl | rfl; exact ⟨k0, hk0, hl0⟩; exact ⟨k1, hk1, hl1⟩; exact ⟨k2, hk2, hl2⟩)) hZ (hw _ (List.mem_of_getElem? (i := 4) rfl)) (hw _ (List.mem_of_getElem? (i := 3) rfl)) (by decide) (by decide)) (g := (mkF m 115 #[.val (.int x0), .val (.int xa), .val (.int xb), .val (.int xc), .val (.int xk), .val (.int (3 : Int32)), .val (.int (3 : Int32)), .val (.int o0), .val (.int o1), .val (.int o2), .val (.ref b137), .val (.ref b138), .unset, .unset] [(.ref b138), (.ref b137)])) rfl (by rw [hml]; rfl) (argsL := [(.ref b137), (.ref b138)]) (rest := []) (lenOf pd_0 rfl) rfl (by show 2 * 0 + _ ≤ _; exact Nat.le_of_eq rfl) (hb hby at_115) (fun _ _ => ⟨rfl, e151, (by decide : 2 + 1 ≤ _), (by decide : 6 + 3 ≤ _)⟩)
            dsimp only [Pt.U, Pt.locs, Pt.cells, Pt.slots] at X153 l153 y153 z153 st153 hQ153
            subst l153 y153 z153
            obtain ⟨h153, e153⟩ : ∃ z, T153.heap = z := ⟨_, rfl⟩
            rw [e153] at hQ153
            obtain ⟨an, rfl, Nq153, Kq153, hge, A153⟩ := hQ153
            have N153 := Fr.app N151 Nq153
            have Z153 : n0 ≤ h153.size := Nat.le_trans Z151 Kq153.1
            have f154 := f152.keep Kq153 nin0
            have f155 := fw151.keep Kq153 nin0
            have gea : n0 ≤ an := Nat.le_trans Z151 hge
            have hp0 : own_g (W.up (W.up (W.up (fun _ => 0) 0 xa) 1 xb) 2 xc) (W.up (W.up (W.up (fun _ => 0) 0 o0) 1 o1) 2 o2) 0 = own_pick o0 xa xb xc := own_pk hk0 hl0 (by decide) (W.up (W.up (W.up (fun _ => 0) 0 xa) 1 xb) 2 xc) rfl (fun q => rfl) (fun q => rfl)
            have hp1 : own_g (W.up (W.up (W.up (fun _ => 0) 0 xa) 1 xb) 2 xc) (W.up (W.up (W.up (fun _ => 0) 0 o0) 1 o1) 2 o2) 1 = own_pick o1 xa xb xc := own_pk hk1 hl1 (by decide) (W.up (W.up (W.up (fun _ => 0) 0 xa) 1 xb) 2 xc) rfl (fun q => rfl) (fun q => rfl)
            have hp2 : own_g (W.up (W.up (W.up (fun _ => 0) 0 xa) 1 xb) 2 xc) (W.up (W.up (W.up (fun _ => 0) 0 o0) 1 o1) 2 o2) 2 = own_pick o2 xa xb xc := own_pk hk2 hl2 (by decide) (W.up (W.up (W.up (fun _ => 0) 0 xa) 1 xb) 2 xc) rfl (fun q => rfl) (fun q => rfl)
            refine W.s2 (mkF m 118 #[.val (.int x0), .val (.int xa), .val (.int xb), .val (.int xc), .val (.int xk), .val (.int (3 : Int32)), .val (.int (3 : Int32)), .val (.int o0), .val (.int o1), .val (.int o2), .val (.ref b137), .val (.ref b138), .unset, .unset] [(.ref an)]) st153 ?_
            refine W.s1 (mkF m 120 #[.val (.int x0), .val (.int xa), .val (.int xb), .val (.int xc), .val (.int xk), .val (.int (3 : Int32)), .val (.int (3 : Int32)), .val (.int o0), .val (.int o1), .val (.int o2), .val (.ref b137), .val (.ref b138), .val (.ref an), .unset] []) (fun _ kx_ => XS.astore X153.here hx rfl (hb hby at_118) rfl rfl (l' := #[.val (.int x0), .val (.int xa), .val (.int xb), .val (.int xc), .val (.int xk), .val (.int (3 : Int32)), .val (.int (3 : Int32)), .val (.int o0), .val (.int o1), .val (.int o2), .val (.ref b137), .val (.ref b138), .val (.ref an), .unset]) rfl kx_) ?_
            refine W.s1 (mkF m 122 #[.val (.int x0), .val (.int xa), .val (.int xb), .val (.int xc), .val (.int xk), .val (.int (3 : Int32)), .val (.int (3 : Int32)), .val (.int o0), .val (.int o1), .val (.int o2), .val (.ref b137), .val (.ref b138), .val (.ref an), .unset] [(.ref an)]) (fun _ kx_ => XS.aload X153.here hx rfl (hb hby at_120) rfl rfl kx_) ?_
            refine W.alen X153 hx hZ e153 A153 (z := (3 : Int32)) rfl (hb hby at_122) (pc' := 123) rfl ?_
            refine W.s1 (mkF m 125 #[.val (.int x0), .val (.int xa), .val (.int xb), .val (.int xc), .val (.int xk), .val (.int (3 : Int32)), .val (.int (3 : Int32)), .val (.int o0), .val (.int o1), .val (.int o2), .val (.ref b137), .val (.ref b138), .val (.ref an), .unset] [(.int (3 : Int32)), (.int (3 : Int32))]) (fun _ kx_ => XS.iload X153.here hx rfl (hb hby at_123) rfl kx_) ?_
            refine W.icmp X153 hx (hb hby at_125) (pc' := 132) (pc'' := 128) (by decide) (by decide) rfl (fun (c125 : ¬ (3 : Int32) = (3 : Int32)) => ?_) (fun (c125 : (3 : Int32) = (3 : Int32)) => ?_)
            · exact absurd c125 (by decide)
            · refine W.s1 (mkF m 129 #[.val (.int x0), .val (.int xa), .val (.int xb), .val (.int xc), .val (.int xk), .val (.int (3 : Int32)), .val (.int (3 : Int32)), .val (.int o0), .val (.int o1), .val (.int o2), .val (.ref b137), .val (.ref b138), .val (.ref an), .unset] [(.int (1 : Int32))]) (fun _ kx_ => XS.iconst X153.here hx rfl (hb hby at_128) kx_) ?_
              refine W.s1 (mkF m 133 #[.val (.int x0), .val (.int xa), .val (.int xb), .val (.int xc), .val (.int xk), .val (.int (3 : Int32)), .val (.int (3 : Int32)), .val (.int o0), .val (.int o1), .val (.int o2), .val (.ref b137), .val (.ref b138), .val (.ref an), .unset] [(.int (1 : Int32))]) (fun _ kx_ => XS.goto X153.here hx rfl (pc0 := 129) (pc' := 133) rfl (hb hby at_129) (by decide) (by decide) kx_) ?_
              refine W.s1 (mkF m 135 #[.val (.int x0), .val (.int xa), .val (.int xb), .val (.int xc), .val (.int xk), .val (.int (3 : Int32)), .val (.int (3 : Int32)), .val (.int o0), .val (.int o1), .val (.int o2), .val (.ref b137), .val (.ref b138), .val (.ref an), .val (.int (1 : Int32))] []) (fun _ kx_ => XS.istore X153.here hx rfl (hb hby at_133) rfl (l' := #[.val (.int x0), .val (.int xa), .val (.int xb), .val (.int xc), .val (.int xk), .val (.int (3 : Int32)), .val (.int (3 : Int32)), .val (.int o0), .val (.int o1), .val (.int o2), .val (.ref b137), .val (.ref b138), .val (.ref an), .val (.int (1 : Int32))]) rfl kx_) ?_
              refine W.s1 (mkF m 137 #[.val (.int x0), .val (.int xa), .val (.int xb), .val (.int xc), .val (.int xk), .val (.int (3 : Int32)), .val (.int (3 : Int32)), .val (.int o0), .val (.int o1), .val (.int o2), .val (.ref b137), .val (.ref b138), .val (.ref an), .val (.int (1 : Int32))] [(.int (1 : Int32))]) (fun _ kx_ => XS.iload X153.here hx rfl (hb hby at_135) rfl kx_) ?_
              refine W.ifc X153 hx (hb hby at_137) (pc' := 184) (pc'' := 140) (by decide) (by decide) rfl (fun (c137 : (1 : Int32) = (0 : Int32)) => ?_) (fun (c137 : ¬ (1 : Int32) = (0 : Int32)) => ?_)
              · exact absurd c137 (by decide)
              · refine W.s1 (mkF m 142 #[.val (.int x0), .val (.int xa), .val (.int xb), .val (.int xc), .val (.int xk), .val (.int (3 : Int32)), .val (.int (3 : Int32)), .val (.int o0), .val (.int o1), .val (.int o2), .val (.ref b137), .val (.ref b138), .val (.ref an), .val (.int (1 : Int32))] [(.int (3 : Int32))]) (fun _ kx_ => XS.iload X153.here hx rfl (hb hby at_140) rfl kx_) ?_
                refine W.ifc X153 hx (hb hby at_142) (pc' := 184) (pc'' := 145) (by decide) (by decide) rfl (fun (c142 : ¬ (0 : Int32) < (3 : Int32)) => ?_) (fun (c142 : (0 : Int32) < (3 : Int32)) => ?_)
                · exact absurd c142 (by decide)
                · refine W.s1 (mkF m 147 #[.val (.int x0), .val (.int xa), .val (.int xb), .val (.int xc), .val (.int xk), .val (.int (3 : Int32)), .val (.int (3 : Int32)), .val (.int o0), .val (.int o1), .val (.int o2), .val (.ref b137), .val (.ref b138), .val (.ref an), .val (.int (1 : Int32))] [(.ref an)]) (fun _ kx_ => XS.aload X153.here hx rfl (hb hby at_145) rfl rfl kx_) ?_
                  refine W.s1 (mkF m 148 #[.val (.int x0), .val (.int xa), .val (.int xb), .val (.int xc), .val (.int xk), .val (.int (3 : Int32)), .val (.int (3 : Int32)), .val (.int o0), .val (.int o1), .val (.int o2), .val (.ref b137), .val (.ref b138), .val (.ref an), .val (.int (1 : Int32))] [(.int (0 : Int32)), (.ref an)]) (fun _ kx_ => XS.iconst X153.here hx rfl (hb hby at_147) kx_) ?_
                  refine W.ldi X153 hx hZ e153 A153 0 rfl (by decide) (hb hby at_148) (pc' := 149) rfl ?_
                  rw [hp0]
                  refine W.s1 (mkF m 151 #[.val (.int x0), .val (.int xa), .val (.int xb), .val (.int xc), .val (.int xk), .val (.int (3 : Int32)), .val (.int (3 : Int32)), .val (.int o0), .val (.int o1), .val (.int o2), .val (.ref b137), .val (.ref b138), .val (.ref an), .val (.int (1 : Int32))] [(.int o0), (.int (own_pick o0 xa xb xc))]) (fun _ kx_ => XS.iload X153.here hx rfl (hb hby at_149) rfl kx_) ?_
                  refine W.s1 (mkF m 152 #[.val (.int x0), .val (.int xa), .val (.int xb), .val (.int xc), .val (.int xk), .val (.int (3 : Int32)), .val (.int (3 : Int32)), .val (.int o0), .val (.int o1), .val (.int o2), .val (.ref b137), .val (.ref b138), .val (.ref an), .val (.int (1 : Int32))] [(.int xa), (.int o0), (.int (own_pick o0 xa xb xc))]) (fun _ kx_ => XS.iloadN X153.here hx rfl (hb hby at_151) rfl kx_) ?_
                  refine W.s1 (mkF m 153 #[.val (.int x0), .val (.int xa), .val (.int xb), .val (.int xc), .val (.int xk), .val (.int (3 : Int32)), .val (.int (3 : Int32)), .val (.int o0), .val (.int o1), .val (.int o2), .val (.ref b137), .val (.ref b138), .val (.ref an), .val (.int (1 : Int32))] [(.int xb), (.int xa), (.int o0), (.int (own_pick o0 xa xb xc))]) (fun _ kx_ => XS.iloadN X153.here hx rfl (hb hby at_152) rfl kx_) ?_
                  refine W.s1 (mkF m 154 #[.val (.int x0), .val (.int xa), .val (.int xb), .val (.int xc), .val (.int xk), .val (.int (3 : Int32)), .val (.int (3 : Int32)), .val (.int o0), .val (.int o1), .val (.int o2), .val (.ref b137), .val (.ref b138), .val (.ref an), .val (.int (1 : Int32))] [(.int xc), (.int xb), (.int xa), (.int o0), (.int (own_pick o0 xa xb xc))]) (fun _ kx_ => XS.iloadN X153.here hx rfl (hb hby at_153) rfl kx_) ?_
                  obtain ⟨_, _, ⟨T156, L156, k156, n156⟩, -, X156, ⟨Lc156, hQ156, l156, y156, z156⟩, st156⟩ := Jvm.LawKit.callS X153 hx (y := (⟨"com/example/vertumnus/vertumnus/engine/SymmetryThenPinLaw", "pick", "(IIII)I"⟩ : MethodName)) hown (mvT hZ (hw _ (List.mem_of_getElem? (i := 5) rfl))) (mvT hZ (hw _ (List.mem_of_getElem? (i := 6) rfl))) (mvT hZ (hw _ (List.mem_of_getElem? (i := 7) rfl))) (mvT hZ (hw _ (List.mem_of_getElem? (i := 8) rfl))) (by decide) (backOf (W := 1) (rm2 l Z a0 hw [] o0 xa xb xc h153 n0 Z153 ) hZ (hw _ (List.mem_of_getElem? (i := 8) rfl)) (hw _ (List.mem_of_getElem? (i := 7) rfl)) (by decide) (by decide)) (g := (mkF m 154 #[.val (.int x0), .val (.int xa), .val (.int xb), .val (.int xc), .val (.int xk), .val (.int (3 : Int32)), .val (.int (3 : Int32)), .val (.int o0), .val (.int o1), .val (.int o2), .val (.ref b137), .val (.ref b138), .val (.ref an), .val (.int (1 : Int32))] [(.int xc), (.int xb), (.int xa), (.int o0), (.int (own_pick o0 xa xb xc))])) rfl (by rw [hml]; rfl) (argsL := [(.int o0), (.int xa), (.int xb), (.int xc)]) (rest := [(.int (own_pick o0 xa xb xc))]) (lenOf pd_1 rfl) rfl (by show 2 * 0 + _ ≤ _; exact Nat.le_of_eq rfl) (hb hby at_154) (fun _ _ => ⟨rfl, e153, (by decide : 3 + 0 ≤ _), (by decide : 9 + 0 ≤ _)⟩)
                  dsimp only [Pt.U, Pt.locs, Pt.cells, Pt.slots] at X156 l156 y156 z156 st156 hQ156
                  subst l156 y156 z156
                  obtain ⟨rfl, Nq156, eq156⟩ := hQ156
                  have N156 := Fr.app N153 Nq156
                  refine W.s2 (mkF m 157 #[.val (.int x0), .val (.int xa), .val (.int xb), .val (.int xc), .val (.int xk), .val (.int (3 : Int32)), .val (.int (3 : Int32)), .val (.int o0), .val (.int o1), .val (.int o2), .val (.ref b137), .val (.ref b138), .val (.ref an), .val (.int (1 : Int32))] [(.int (own_pick o0 xa xb xc)), (.int (own_pick o0 xa xb xc))]) st156 ?_
                  refine W.icmp X156 hx (hb hby at_157) (pc' := 181) (pc'' := 160) (by decide) (by decide) rfl (fun (c157 : ¬ (own_pick o0 xa xb xc) = (own_pick o0 xa xb xc)) => ?_) (fun (c157 : (own_pick o0 xa xb xc) = (own_pick o0 xa xb xc)) => ?_)
                  · exact absurd rfl c157
                  · refine W.s1 (mkF m 162 #[.val (.int x0), .val (.int xa), .val (.int xb), .val (.int xc), .val (.int xk), .val (.int (3 : Int32)), .val (.int (3 : Int32)), .val (.int o0), .val (.int o1), .val (.int o2), .val (.ref b137), .val (.ref b138), .val (.ref an), .val (.int (1 : Int32))] [(.ref b137)]) (fun _ kx_ => XS.aload X156.here hx rfl (hb hby at_160) rfl rfl kx_) ?_
                    refine W.s1 (mkF m 163 #[.val (.int x0), .val (.int xa), .val (.int xb), .val (.int xc), .val (.int xk), .val (.int (3 : Int32)), .val (.int (3 : Int32)), .val (.int o0), .val (.int o1), .val (.int o2), .val (.ref b137), .val (.ref b138), .val (.ref an), .val (.int (1 : Int32))] [(.int (0 : Int32)), (.ref b137)]) (fun _ kx_ => XS.iconst X156.here hx rfl (hb hby at_162) kx_) ?_
                    refine W.ldi X156 hx hZ eq156 f154 0 rfl (by decide) (hb hby at_163) (pc' := 164) rfl ?_
                    rw [show ((W.up (W.up (W.up (fun _ => 0) 0 xa) 1 xb) 2 xc) 0) = xa from rfl]
                    refine W.s1 (mkF m 165 #[.val (.int x0), .val (.int xa), .val (.int xb), .val (.int xc), .val (.int xk), .val (.int (3 : Int32)), .val (.int (3 : Int32)), .val (.int o0), .val (.int o1), .val (.int o2), .val (.ref b137), .val (.ref b138), .val (.ref an), .val (.int (1 : Int32))] [(.int xa), (.int xa)]) (fun _ kx_ => XS.iloadN X156.here hx rfl (hb hby at_164) rfl kx_) ?_
                    refine W.icmp X156 hx (hb hby at_165) (pc' := 181) (pc'' := 168) (by decide) (by decide) rfl (fun (c165 : ¬ xa = xa) => ?_) (fun (c165 : xa = xa) => ?_)
                    · exact absurd rfl c165
                    · refine W.s1 (mkF m 170 #[.val (.int x0), .val (.int xa), .val (.int xb), .val (.int xc), .val (.int xk), .val (.int (3 : Int32)), .val (.int (3 : Int32)), .val (.int o0), .val (.int o1), .val (.int o2), .val (.ref b137), .val (.ref b138), .val (.ref an), .val (.int (1 : Int32))] [(.ref b138)]) (fun _ kx_ => XS.aload X156.here hx rfl (hb hby at_168) rfl rfl kx_) ?_
                      refine W.s1 (mkF m 171 #[.val (.int x0), .val (.int xa), .val (.int xb), .val (.int xc), .val (.int xk), .val (.int (3 : Int32)), .val (.int (3 : Int32)), .val (.int o0), .val (.int o1), .val (.int o2), .val (.ref b137), .val (.ref b138), .val (.ref an), .val (.int (1 : Int32))] [(.int (0 : Int32)), (.ref b138)]) (fun _ kx_ => XS.iconst X156.here hx rfl (hb hby at_170) kx_) ?_
                      refine W.ldi X156 hx hZ eq156 f155 0 rfl (by decide) (hb hby at_171) (pc' := 172) rfl ?_
                      rw [show ((W.up (W.up (W.up (fun _ => 0) 0 o0) 1 o1) 2 o2) 0) = o0 from rfl]
                      refine W.s1 (mkF m 174 #[.val (.int x0), .val (.int xa), .val (.int xb), .val (.int xc), .val (.int xk), .val (.int (3 : Int32)), .val (.int (3 : Int32)), .val (.int o0), .val (.int o1), .val (.int o2), .val (.ref b137), .val (.ref b138), .val (.ref an), .val (.int (1 : Int32))] [(.int o0), (.int o0)]) (fun _ kx_ => XS.iload X156.here hx rfl (hb hby at_172) rfl kx_) ?_
                      refine W.icmp X156 hx (hb hby at_174) (pc' := 181) (pc'' := 177) (by decide) (by decide) rfl (fun (c174 : ¬ o0 = o0) => ?_) (fun (c174 : o0 = o0) => ?_)
                      · exact absurd rfl c174
                      · refine W.s1 (mkF m 178 #[.val (.int x0), .val (.int xa), .val (.int xb), .val (.int xc), .val (.int xk), .val (.int (3 : Int32)), .val (.int (3 : Int32)), .val (.int o0), .val (.int o1), .val (.int o2), .val (.ref b137), .val (.ref b138), .val (.ref an), .val (.int (1 : Int32))] [(.int (1 : Int32))]) (fun _ kx_ => XS.iconst X156.here hx rfl (hb hby at_177) kx_) ?_
                        refine W.s1 (mkF m 182 #[.val (.int x0), .val (.int xa), .val (.int xb), .val (.int xc), .val (.int xk), .val (.int (3 : Int32)), .val (.int (3 : Int32)), .val (.int o0), .val (.int o1), .val (.int o2), .val (.ref b137), .val (.ref b138), .val (.ref an), .val (.int (1 : Int32))] [(.int (1 : Int32))]) (fun _ kx_ => XS.goto X156.here hx rfl (pc0 := 178) (pc' := 182) rfl (hb hby at_178) (by decide) (by decide) kx_) ?_
                        refine W.s1 (mkF m 184 #[.val (.int x0), .val (.int xa), .val (.int xb), .val (.int xc), .val (.int xk), .val (.int (3 : Int32)), .val (.int (3 : Int32)), .val (.int o0), .val (.int o1), .val (.int o2), .val (.ref b137), .val (.ref b138), .val (.ref an), .val (.int (1 : Int32))] []) (fun _ kx_ => XS.istore X156.here hx rfl (hb hby at_182) rfl (l' := #[.val (.int x0), .val (.int xa), .val (.int xb), .val (.int xc), .val (.int xk), .val (.int (3 : Int32)), .val (.int (3 : Int32)), .val (.int o0), .val (.int o1), .val (.int o2), .val (.ref b137), .val (.ref b138), .val (.ref an), .val (.int (1 : Int32))]) rfl kx_) ?_
                        refine W.s1 (mkF m 186 #[.val (.int x0), .val (.int xa), .val (.int xb), .val (.int xc), .val (.int xk), .val (.int (3 : Int32)), .val (.int (3 : Int32)), .val (.int o0), .val (.int o1), .val (.int o2), .val (.ref b137), .val (.ref b138), .val (.ref an), .val (.int (1 : Int32))] [(.int (1 : Int32))]) (fun _ kx_ => XS.iload X156.here hx rfl (hb hby at_184) rfl kx_) ?_
                        refine W.ifc X156 hx (hb hby at_186) (pc' := 234) (pc'' := 189) (by decide) (by decide) rfl (fun (c186 : (1 : Int32) = (0 : Int32)) => ?_) (fun (c186 : ¬ (1 : Int32) = (0 : Int32)) => ?_)
                        · exact absurd c186 (by decide)
                        · refine W.s1 (mkF m 191 #[.val (.int x0), .val (.int xa), .val (.int xb), .val (.int xc), .val (.int xk), .val (.int (3 : Int32)), .val (.int (3 : Int32)), .val (.int o0), .val (.int o1), .val (.int o2), .val (.ref b137), .val (.ref b138), .val (.ref an), .val (.int (1 : Int32))] [(.int (3 : Int32))]) (fun _ kx_ => XS.iload X156.here hx rfl (hb hby at_189) rfl kx_) ?_
                          refine W.s1 (mkF m 192 #[.val (.int x0), .val (.int xa), .val (.int xb), .val (.int xc), .val (.int xk), .val (.int (3 : Int32)), .val (.int (3 : Int32)), .val (.int o0), .val (.int o1), .val (.int o2), .val (.ref b137), .val (.ref b138), .val (.ref an), .val (.int (1 : Int32))] [(.int (1 : Int32)), (.int (3 : Int32))]) (fun _ kx_ => XS.iconst X156.here hx rfl (hb hby at_191) kx_) ?_
                          refine W.icmp X156 hx (hb hby at_192) (pc' := 234) (pc'' := 195) (by decide) (by decide) rfl (fun (c192 : ¬ (1 : Int32) < (3 : Int32)) => ?_) (fun (c192 : (1 : Int32) < (3 : Int32)) => ?_)
                          · exact absurd c192 (by decide)
                          · refine W.s1 (mkF m 197 #[.val (.int x0), .val (.int xa), .val (.int xb), .val (.int xc), .val (.int xk), .val (.int (3 : Int32)), .val (.int (3 : Int32)), .val (.int o0), .val (.int o1), .val (.int o2), .val (.ref b137), .val (.ref b138), .val (.ref an), .val (.int (1 : Int32))] [(.ref an)]) (fun _ kx_ => XS.aload X156.here hx rfl (hb hby at_195) rfl rfl kx_) ?_
                            refine W.s1 (mkF m 198 #[.val (.int x0), .val (.int xa), .val (.int xb), .val (.int xc), .val (.int xk), .val (.int (3 : Int32)), .val (.int (3 : Int32)), .val (.int o0), .val (.int o1), .val (.int o2), .val (.ref b137), .val (.ref b138), .val (.ref an), .val (.int (1 : Int32))] [(.int (1 : Int32)), (.ref an)]) (fun _ kx_ => XS.iconst X156.here hx rfl (hb hby at_197) kx_) ?_
                            refine W.ldi X156 hx hZ eq156 A153 1 rfl (by decide) (hb hby at_198) (pc' := 199) rfl ?_
                            rw [hp1]
                            refine W.s1 (mkF m 201 #[.val (.int x0), .val (.int xa), .val (.int xb), .val (.int xc), .val (.int xk), .val (.int (3 : Int32)), .val (.int (3 : Int32)), .val (.int o0), .val (.int o1), .val (.int o2), .val (.ref b137), .val (.ref b138), .val (.ref an), .val (.int (1 : Int32))] [(.int o1), (.int (own_pick o1 xa xb xc))]) (fun _ kx_ => XS.iload X156.here hx rfl (hb hby at_199) rfl kx_) ?_
                            refine W.s1 (mkF m 202 #[.val (.int x0), .val (.int xa), .val (.int xb), .val (.int xc), .val (.int xk), .val (.int (3 : Int32)), .val (.int (3 : Int32)), .val (.int o0), .val (.int o1), .val (.int o2), .val (.ref b137), .val (.ref b138), .val (.ref an), .val (.int (1 : Int32))] [(.int xa), (.int o1), (.int (own_pick o1 xa xb xc))]) (fun _ kx_ => XS.iloadN X156.here hx rfl (hb hby at_201) rfl kx_) ?_
                            refine W.s1 (mkF m 203 #[.val (.int x0), .val (.int xa), .val (.int xb), .val (.int xc), .val (.int xk), .val (.int (3 : Int32)), .val (.int (3 : Int32)), .val (.int o0), .val (.int o1), .val (.int o2), .val (.ref b137), .val (.ref b138), .val (.ref an), .val (.int (1 : Int32))] [(.int xb), (.int xa), (.int o1), (.int (own_pick o1 xa xb xc))]) (fun _ kx_ => XS.iloadN X156.here hx rfl (hb hby at_202) rfl kx_) ?_
                            refine W.s1 (mkF m 204 #[.val (.int x0), .val (.int xa), .val (.int xb), .val (.int xc), .val (.int xk), .val (.int (3 : Int32)), .val (.int (3 : Int32)), .val (.int o0), .val (.int o1), .val (.int o2), .val (.ref b137), .val (.ref b138), .val (.ref an), .val (.int (1 : Int32))] [(.int xc), (.int xb), (.int xa), (.int o1), (.int (own_pick o1 xa xb xc))]) (fun _ kx_ => XS.iloadN X156.here hx rfl (hb hby at_203) rfl kx_) ?_
                            obtain ⟨_, _, ⟨T157, L157, k157, n157⟩, -, X157, ⟨Lc157, hQ157, l157, y157, z157⟩, st157⟩ := Jvm.LawKit.callS X156 hx (y := (⟨"com/example/vertumnus/vertumnus/engine/SymmetryThenPinLaw", "pick", "(IIII)I"⟩ : MethodName)) hown (mvT hZ (hw _ (List.mem_of_getElem? (i := 5) rfl))) (mvT hZ (hw _ (List.mem_of_getElem? (i := 6) rfl))) (mvT hZ (hw _ (List.mem_of_getElem? (i := 7) rfl))) (mvT hZ (hw _ (List.mem_of_getElem? (i := 8) rfl))) (by decide) (backOf (W := 1) (rm2 l Z a0 hw [] o1 xa xb xc h153 n0 Z153 ) hZ (hw _ (List.mem_of_getElem? (i := 8) rfl)) (hw _ (List.mem_of_getElem? (i := 7) rfl)) (by decide) (by decide)) (g := (mkF m 204 #[.val (.int x0), .val (.int xa), .val (.int xb), .val (.int xc), .val (.int xk), .val (.int (3 : Int32)), .val (.int (3 : Int32)), .val (.int o0), .val (.int o1), .val (.int o2), .val (.ref b137), .val (.ref b138), .val (.ref an), .val (.int (1 : Int32))] [(.int xc), (.int xb), (.int xa), (.int o1), (.int (own_pick o1 xa xb xc))])) rfl (by rw [hml]; rfl) (argsL := [(.int o1), (.int xa), (.int xb), (.int xc)]) (rest := [(.int (own_pick o1 xa xb xc))]) (lenOf pd_1 rfl) rfl (by show 2 * 0 + _ ≤ _; exact Nat.le_of_eq rfl) (hb hby at_204) (fun _ _ => ⟨rfl, eq156, (by decide : 3 + 0 ≤ _), (by decide : 9 + 0 ≤ _)⟩)
                            dsimp only [Pt.U, Pt.locs, Pt.cells, Pt.slots] at X157 l157 y157 z157 st157 hQ157
                            subst l157 y157 z157
                            obtain ⟨rfl, Nq157, eq157⟩ := hQ157
                            have N157 := Fr.app N156 Nq157
                            refine W.s2 (mkF m 207 #[.val (.int x0), .val (.int xa), .val (.int xb), .val (.int xc), .val (.int xk), .val (.int (3 : Int32)), .val (.int (3 : Int32)), .val (.int o0), .val (.int o1), .val (.int o2), .val (.ref b137), .val (.ref b138), .val (.ref an), .val (.int (1 : Int32))] [(.int (own_pick o1 xa xb xc)), (.int (own_pick o1 xa xb xc))]) st157 ?_
                            refine W.icmp X157 hx (hb hby at_207) (pc' := 231) (pc'' := 210) (by decide) (by decide) rfl (fun (c207 : ¬ (own_pick o1 xa xb xc) = (own_pick o1 xa xb xc)) => ?_) (fun (c207 : (own_pick o1 xa xb xc) = (own_pick o1 xa xb xc)) => ?_)
                            · exact absurd rfl c207
                            · refine W.s1 (mkF m 212 #[.val (.int x0), .val (.int xa), .val (.int xb), .val (.int xc), .val (.int xk), .val (.int (3 : Int32)), .val (.int (3 : Int32)), .val (.int o0), .val (.int o1), .val (.int o2), .val (.ref b137), .val (.ref b138), .val (.ref an), .val (.int (1 : Int32))] [(.ref b137)]) (fun _ kx_ => XS.aload X157.here hx rfl (hb hby at_210) rfl rfl kx_) ?_
                              refine W.s1 (mkF m 213 #[.val (.int x0), .val (.int xa), .val (.int xb), .val (.int xc), .val (.int xk), .val (.int (3 : Int32)), .val (.int (3 : Int32)), .val (.int o0), .val (.int o1), .val (.int o2), .val (.ref b137), .val (.ref b138), .val (.ref an), .val (.int (1 : Int32))] [(.int (1 : Int32)), (.ref b137)]) (fun _ kx_ => XS.iconst X157.here hx rfl (hb hby at_212) kx_) ?_
                              refine W.ldi X157 hx hZ eq157 f154 1 rfl (by decide) (hb hby at_213) (pc' := 214) rfl ?_
                              rw [show ((W.up (W.up (W.up (fun _ => 0) 0 xa) 1 xb) 2 xc) 1) = xb from rfl]
                              refine W.s1 (mkF m 215 #[.val (.int x0), .val (.int xa), .val (.int xb), .val (.int xc), .val (.int xk), .val (.int (3 : Int32)), .val (.int (3 : Int32)), .val (.int o0), .val (.int o1), .val (.int o2), .val (.ref b137), .val (.ref b138), .val (.ref an), .val (.int (1 : Int32))] [(.int xb), (.int xb)]) (fun _ kx_ => XS.iloadN X157.here hx rfl (hb hby at_214) rfl kx_) ?_
                              refine W.icmp X157 hx (hb hby at_215) (pc' := 231) (pc'' := 218) (by decide) (by decide) rfl (fun (c215 : ¬ xb = xb) => ?_) (fun (c215 : xb = xb) => ?_)
                              · exact absurd rfl c215
                              · refine W.s1 (mkF m 220 #[.val (.int x0), .val (.int xa), .val (.int xb), .val (.int xc), .val (.int xk), .val (.int (3 : Int32)), .val (.int (3 : Int32)), .val (.int o0), .val (.int o1), .val (.int o2), .val (.ref b137), .val (.ref b138), .val (.ref an), .val (.int (1 : Int32))] [(.ref b138)]) (fun _ kx_ => XS.aload X157.here hx rfl (hb hby at_218) rfl rfl kx_) ?_
                                refine W.s1 (mkF m 221 #[.val (.int x0), .val (.int xa), .val (.int xb), .val (.int xc), .val (.int xk), .val (.int (3 : Int32)), .val (.int (3 : Int32)), .val (.int o0), .val (.int o1), .val (.int o2), .val (.ref b137), .val (.ref b138), .val (.ref an), .val (.int (1 : Int32))] [(.int (1 : Int32)), (.ref b138)]) (fun _ kx_ => XS.iconst X157.here hx rfl (hb hby at_220) kx_) ?_
                                refine W.ldi X157 hx hZ eq157 f155 1 rfl (by decide) (hb hby at_221) (pc' := 222) rfl ?_
                                rw [show ((W.up (W.up (W.up (fun _ => 0) 0 o0) 1 o1) 2 o2) 1) = o1 from rfl]
                                refine W.s1 (mkF m 224 #[.val (.int x0), .val (.int xa), .val (.int xb), .val (.int xc), .val (.int xk), .val (.int (3 : Int32)), .val (.int (3 : Int32)), .val (.int o0), .val (.int o1), .val (.int o2), .val (.ref b137), .val (.ref b138), .val (.ref an), .val (.int (1 : Int32))] [(.int o1), (.int o1)]) (fun _ kx_ => XS.iload X157.here hx rfl (hb hby at_222) rfl kx_) ?_
                                refine W.icmp X157 hx (hb hby at_224) (pc' := 231) (pc'' := 227) (by decide) (by decide) rfl (fun (c224 : ¬ o1 = o1) => ?_) (fun (c224 : o1 = o1) => ?_)
                                · exact absurd rfl c224
                                · refine W.s1 (mkF m 228 #[.val (.int x0), .val (.int xa), .val (.int xb), .val (.int xc), .val (.int xk), .val (.int (3 : Int32)), .val (.int (3 : Int32)), .val (.int o0), .val (.int o1), .val (.int o2), .val (.ref b137), .val (.ref b138), .val (.ref an), .val (.int (1 : Int32))] [(.int (1 : Int32))]) (fun _ kx_ => XS.iconst X157.here hx rfl (hb hby at_227) kx_) ?_
                                  refine W.s1 (mkF m 232 #[.val (.int x0), .val (.int xa), .val (.int xb), .val (.int xc), .val (.int xk), .val (.int (3 : Int32)), .val (.int (3 : Int32)), .val (.int o0), .val (.int o1), .val (.int o2), .val (.ref b137), .val (.ref b138), .val (.ref an), .val (.int (1 : Int32))] [(.int (1 : Int32))]) (fun _ kx_ => XS.goto X157.here hx rfl (pc0 := 228) (pc' := 232) rfl (hb hby at_228) (by decide) (by decide) kx_) ?_
                                  refine W.s1 (mkF m 234 #[.val (.int x0), .val (.int xa), .val (.int xb), .val (.int xc), .val (.int xk), .val (.int (3 : Int32)), .val (.int (3 : Int32)), .val (.int o0), .val (.int o1), .val (.int o2), .val (.ref b137), .val (.ref b138), .val (.ref an), .val (.int (1 : Int32))] []) (fun _ kx_ => XS.istore X157.here hx rfl (hb hby at_232) rfl (l' := #[.val (.int x0), .val (.int xa), .val (.int xb), .val (.int xc), .val (.int xk), .val (.int (3 : Int32)), .val (.int (3 : Int32)), .val (.int o0), .val (.int o1), .val (.int o2), .val (.ref b137), .val (.ref b138), .val (.ref an), .val (.int (1 : Int32))]) rfl kx_) ?_
                                  refine W.s1 (mkF m 236 #[.val (.int x0), .val (.int xa), .val (.int xb), .val (.int xc), .val (.int xk), .val (.int (3 : Int32)), .val (.int (3 : Int32)), .val (.int o0), .val (.int o1), .val (.int o2), .val (.ref b137), .val (.ref b138), .val (.ref an), .val (.int (1 : Int32))] [(.int (1 : Int32))]) (fun _ kx_ => XS.iload X157.here hx rfl (hb hby at_234) rfl kx_) ?_
                                  refine W.ifc X157 hx (hb hby at_236) (pc' := 284) (pc'' := 239) (by decide) (by decide) rfl (fun (c236 : (1 : Int32) = (0 : Int32)) => ?_) (fun (c236 : ¬ (1 : Int32) = (0 : Int32)) => ?_)
                                  · exact absurd c236 (by decide)
                                  · refine W.s1 (mkF m 241 #[.val (.int x0), .val (.int xa), .val (.int xb), .val (.int xc), .val (.int xk), .val (.int (3 : Int32)), .val (.int (3 : Int32)), .val (.int o0), .val (.int o1), .val (.int o2), .val (.ref b137), .val (.ref b138), .val (.ref an), .val (.int (1 : Int32))] [(.int (3 : Int32))]) (fun _ kx_ => XS.iload X157.here hx rfl (hb hby at_239) rfl kx_) ?_
                                    refine W.s1 (mkF m 242 #[.val (.int x0), .val (.int xa), .val (.int xb), .val (.int xc), .val (.int xk), .val (.int (3 : Int32)), .val (.int (3 : Int32)), .val (.int o0), .val (.int o1), .val (.int o2), .val (.ref b137), .val (.ref b138), .val (.ref an), .val (.int (1 : Int32))] [(.int (2 : Int32)), (.int (3 : Int32))]) (fun _ kx_ => XS.iconst X157.here hx rfl (hb hby at_241) kx_) ?_
                                    refine W.icmp X157 hx (hb hby at_242) (pc' := 284) (pc'' := 245) (by decide) (by decide) rfl (fun (c242 : ¬ (2 : Int32) < (3 : Int32)) => ?_) (fun (c242 : (2 : Int32) < (3 : Int32)) => ?_)
                                    · exact absurd c242 (by decide)
                                    · refine W.s1 (mkF m 247 #[.val (.int x0), .val (.int xa), .val (.int xb), .val (.int xc), .val (.int xk), .val (.int (3 : Int32)), .val (.int (3 : Int32)), .val (.int o0), .val (.int o1), .val (.int o2), .val (.ref b137), .val (.ref b138), .val (.ref an), .val (.int (1 : Int32))] [(.ref an)]) (fun _ kx_ => XS.aload X157.here hx rfl (hb hby at_245) rfl rfl kx_) ?_
                                      refine W.s1 (mkF m 248 #[.val (.int x0), .val (.int xa), .val (.int xb), .val (.int xc), .val (.int xk), .val (.int (3 : Int32)), .val (.int (3 : Int32)), .val (.int o0), .val (.int o1), .val (.int o2), .val (.ref b137), .val (.ref b138), .val (.ref an), .val (.int (1 : Int32))] [(.int (2 : Int32)), (.ref an)]) (fun _ kx_ => XS.iconst X157.here hx rfl (hb hby at_247) kx_) ?_
                                      refine W.ldi X157 hx hZ eq157 A153 2 rfl (by decide) (hb hby at_248) (pc' := 249) rfl ?_
                                      rw [hp2]
                                      refine W.s1 (mkF m 251 #[.val (.int x0), .val (.int xa), .val (.int xb), .val (.int xc), .val (.int xk), .val (.int (3 : Int32)), .val (.int (3 : Int32)), .val (.int o0), .val (.int o1), .val (.int o2), .val (.ref b137), .val (.ref b138), .val (.ref an), .val (.int (1 : Int32))] [(.int o2), (.int (own_pick o2 xa xb xc))]) (fun _ kx_ => XS.iload X157.here hx rfl (hb hby at_249) rfl kx_) ?_
                                      refine W.s1 (mkF m 252 #[.val (.int x0), .val (.int xa), .val (.int xb), .val (.int xc), .val (.int xk), .val (.int (3 : Int32)), .val (.int (3 : Int32)), .val (.int o0), .val (.int o1), .val (.int o2), .val (.ref b137), .val (.ref b138), .val (.ref an), .val (.int (1 : Int32))] [(.int xa), (.int o2), (.int (own_pick o2 xa xb xc))]) (fun _ kx_ => XS.iloadN X157.here hx rfl (hb hby at_251) rfl kx_) ?_
                                      refine W.s1 (mkF m 253 #[.val (.int x0), .val (.int xa), .val (.int xb), .val (.int xc), .val (.int xk), .val (.int (3 : Int32)), .val (.int (3 : Int32)), .val (.int o0), .val (.int o1), .val (.int o2), .val (.ref b137), .val (.ref b138), .val (.ref an), .val (.int (1 : Int32))] [(.int xb), (.int xa), (.int o2), (.int (own_pick o2 xa xb xc))]) (fun _ kx_ => XS.iloadN X157.here hx rfl (hb hby at_252) rfl kx_) ?_
                                      refine W.s1 (mkF m 254 #[.val (.int x0), .val (.int xa), .val (.int xb), .val (.int xc), .val (.int xk), .val (.int (3 : Int32)), .val (.int (3 : Int32)), .val (.int o0), .val (.int o1), .val (.int o2), .val (.ref b137), .val (.ref b138), .val (.ref an), .val (.int (1 : Int32))] [(.int xc), (.int xb), (.int xa), (.int o2), (.int (own_pick o2 xa xb xc))]) (fun _ kx_ => XS.iloadN X157.here hx rfl (hb hby at_253) rfl kx_) ?_
                                      obtain ⟨_, _, ⟨T158, L158, k158, n158⟩, -, X158, ⟨Lc158, hQ158, l158, y158, z158⟩, st158⟩ := Jvm.LawKit.callS X157 hx (y := (⟨"com/example/vertumnus/vertumnus/engine/SymmetryThenPinLaw", "pick", "(IIII)I"⟩ : MethodName)) hown (mvT hZ (hw _ (List.mem_of_getElem? (i := 5) rfl))) (mvT hZ (hw _ (List.mem_of_getElem? (i := 6) rfl))) (mvT hZ (hw _ (List.mem_of_getElem? (i := 7) rfl))) (mvT hZ (hw _ (List.mem_of_getElem? (i := 8) rfl))) (by decide) (backOf (W := 1) (rm2 l Z a0 hw [] o2 xa xb xc h153 n0 Z153 ) hZ (hw _ (List.mem_of_getElem? (i := 8) rfl)) (hw _ (List.mem_of_getElem? (i := 7) rfl)) (by decide) (by decide)) (g := (mkF m 254 #[.val (.int x0), .val (.int xa), .val (.int xb), .val (.int xc), .val (.int xk), .val (.int (3 : Int32)), .val (.int (3 : Int32)), .val (.int o0), .val (.int o1), .val (.int o2), .val (.ref b137), .val (.ref b138), .val (.ref an), .val (.int (1 : Int32))] [(.int xc), (.int xb), (.int xa), (.int o2), (.int (own_pick o2 xa xb xc))])) rfl (by rw [hml]; rfl) (argsL := [(.int o2), (.int xa), (.int xb), (.int xc)]) (rest := [(.int (own_pick o2 xa xb xc))]) (lenOf pd_1 rfl) rfl (by show 2 * 0 + _ ≤ _; exact Nat.le_of_eq rfl) (hb hby at_254) (fun _ _ => ⟨rfl, eq157, (by decide : 3 + 0 ≤ _), (by decide : 9 + 0 ≤ _)⟩)
                                      dsimp only [Pt.U, Pt.locs, Pt.cells, Pt.slots] at X158 l158 y158 z158 st158 hQ158
                                      subst l158 y158 z158
                                      obtain ⟨rfl, Nq158, eq158⟩ := hQ158
                                      have N158 := Fr.app N157 Nq158
                                      refine W.s2 (mkF m 257 #[.val (.int x0), .val (.int xa), .val (.int xb), .val (.int xc), .val (.int xk), .val (.int (3 : Int32)), .val (.int (3 : Int32)), .val (.int o0), .val (.int o1), .val (.int o2), .val (.ref b137), .val (.ref b138), .val (.ref an), .val (.int (1 : Int32))] [(.int (own_pick o2 xa xb xc)), (.int (own_pick o2 xa xb xc))]) st158 ?_
                                      refine W.icmp X158 hx (hb hby at_257) (pc' := 281) (pc'' := 260) (by decide) (by decide) rfl (fun (c257 : ¬ (own_pick o2 xa xb xc) = (own_pick o2 xa xb xc)) => ?_) (fun (c257 : (own_pick o2 xa xb xc) = (own_pick o2 xa xb xc)) => ?_)
                                      · exact absurd rfl c257
                                      · refine W.s1 (mkF m 262 #[.val (.int x0), .val (.int xa), .val (.int xb), .val (.int xc), .val (.int xk), .val (.int (3 : Int32)), .val (.int (3 : Int32)), .val (.int o0), .val (.int o1), .val (.int o2), .val (.ref b137), .val (.ref b138), .val (.ref an), .val (.int (1 : Int32))] [(.ref b137)]) (fun _ kx_ => XS.aload X158.here hx rfl (hb hby at_260) rfl rfl kx_) ?_
                                        refine W.s1 (mkF m 263 #[.val (.int x0), .val (.int xa), .val (.int xb), .val (.int xc), .val (.int xk), .val (.int (3 : Int32)), .val (.int (3 : Int32)), .val (.int o0), .val (.int o1), .val (.int o2), .val (.ref b137), .val (.ref b138), .val (.ref an), .val (.int (1 : Int32))] [(.int (2 : Int32)), (.ref b137)]) (fun _ kx_ => XS.iconst X158.here hx rfl (hb hby at_262) kx_) ?_
                                        refine W.ldi X158 hx hZ eq158 f154 2 rfl (by decide) (hb hby at_263) (pc' := 264) rfl ?_
                                        rw [show ((W.up (W.up (W.up (fun _ => 0) 0 xa) 1 xb) 2 xc) 2) = xc from rfl]
                                        refine W.s1 (mkF m 265 #[.val (.int x0), .val (.int xa), .val (.int xb), .val (.int xc), .val (.int xk), .val (.int (3 : Int32)), .val (.int (3 : Int32)), .val (.int o0), .val (.int o1), .val (.int o2), .val (.ref b137), .val (.ref b138), .val (.ref an), .val (.int (1 : Int32))] [(.int xc), (.int xc)]) (fun _ kx_ => XS.iloadN X158.here hx rfl (hb hby at_264) rfl kx_) ?_
                                        refine W.icmp X158 hx (hb hby at_265) (pc' := 281) (pc'' := 268) (by decide) (by decide) rfl (fun (c265 : ¬ xc = xc) => ?_) (fun (c265 : xc = xc) => ?_)
                                        · exact absurd rfl c265
                                        · refine W.s1 (mkF m 270 #[.val (.int x0), .val (.int xa), .val (.int xb), .val (.int xc), .val (.int xk), .val (.int (3 : Int32)), .val (.int (3 : Int32)), .val (.int o0), .val (.int o1), .val (.int o2), .val (.ref b137), .val (.ref b138), .val (.ref an), .val (.int (1 : Int32))] [(.ref b138)]) (fun _ kx_ => XS.aload X158.here hx rfl (hb hby at_268) rfl rfl kx_) ?_
                                          refine W.s1 (mkF m 271 #[.val (.int x0), .val (.int xa), .val (.int xb), .val (.int xc), .val (.int xk), .val (.int (3 : Int32)), .val (.int (3 : Int32)), .val (.int o0), .val (.int o1), .val (.int o2), .val (.ref b137), .val (.ref b138), .val (.ref an), .val (.int (1 : Int32))] [(.int (2 : Int32)), (.ref b138)]) (fun _ kx_ => XS.iconst X158.here hx rfl (hb hby at_270) kx_) ?_
                                          refine W.ldi X158 hx hZ eq158 f155 2 rfl (by decide) (hb hby at_271) (pc' := 272) rfl ?_
                                          rw [show ((W.up (W.up (W.up (fun _ => 0) 0 o0) 1 o1) 2 o2) 2) = o2 from rfl]
                                          refine W.s1 (mkF m 274 #[.val (.int x0), .val (.int xa), .val (.int xb), .val (.int xc), .val (.int xk), .val (.int (3 : Int32)), .val (.int (3 : Int32)), .val (.int o0), .val (.int o1), .val (.int o2), .val (.ref b137), .val (.ref b138), .val (.ref an), .val (.int (1 : Int32))] [(.int o2), (.int o2)]) (fun _ kx_ => XS.iload X158.here hx rfl (hb hby at_272) rfl kx_) ?_
                                          refine W.icmp X158 hx (hb hby at_274) (pc' := 281) (pc'' := 277) (by decide) (by decide) rfl (fun (c274 : ¬ o2 = o2) => ?_) (fun (c274 : o2 = o2) => ?_)
                                          · exact absurd rfl c274
                                          · refine W.s1 (mkF m 278 #[.val (.int x0), .val (.int xa), .val (.int xb), .val (.int xc), .val (.int xk), .val (.int (3 : Int32)), .val (.int (3 : Int32)), .val (.int o0), .val (.int o1), .val (.int o2), .val (.ref b137), .val (.ref b138), .val (.ref an), .val (.int (1 : Int32))] [(.int (1 : Int32))]) (fun _ kx_ => XS.iconst X158.here hx rfl (hb hby at_277) kx_) ?_
                                            refine W.s1 (mkF m 282 #[.val (.int x0), .val (.int xa), .val (.int xb), .val (.int xc), .val (.int xk), .val (.int (3 : Int32)), .val (.int (3 : Int32)), .val (.int o0), .val (.int o1), .val (.int o2), .val (.ref b137), .val (.ref b138), .val (.ref an), .val (.int (1 : Int32))] [(.int (1 : Int32))]) (fun _ kx_ => XS.goto X158.here hx rfl (pc0 := 278) (pc' := 282) rfl (hb hby at_278) (by decide) (by decide) kx_) ?_
                                            refine W.s1 (mkF m 284 #[.val (.int x0), .val (.int xa), .val (.int xb), .val (.int xc), .val (.int xk), .val (.int (3 : Int32)), .val (.int (3 : Int32)), .val (.int o0), .val (.int o1), .val (.int o2), .val (.ref b137), .val (.ref b138), .val (.ref an), .val (.int (1 : Int32))] []) (fun _ kx_ => XS.istore X158.here hx rfl (hb hby at_282) rfl (l' := #[.val (.int x0), .val (.int xa), .val (.int xb), .val (.int xc), .val (.int xk), .val (.int (3 : Int32)), .val (.int (3 : Int32)), .val (.int o0), .val (.int o1), .val (.int o2), .val (.ref b137), .val (.ref b138), .val (.ref an), .val (.int (1 : Int32))]) rfl kx_) ?_
                                            refine W.s1 (mkF m 286 #[.val (.int x0), .val (.int xa), .val (.int xb), .val (.int xc), .val (.int xk), .val (.int (3 : Int32)), .val (.int (3 : Int32)), .val (.int o0), .val (.int o1), .val (.int o2), .val (.ref b137), .val (.ref b138), .val (.ref an), .val (.int (1 : Int32))] [(.int (1 : Int32))]) (fun _ kx_ => XS.iload X158.here hx rfl (hb hby at_284) rfl kx_) ?_
                                            exact W.retZ X158 hx hlk (t := .boolean) (z' := (1 : Int32)) Bd.returns (by simp) (hb hby at_286) rfl (by show Q0 Z x0 xa xb xc xk h0 n0 _ T158.heap _; rw [eq158]; exact ⟨rfl, N158⟩) (by decide) (by decide)
    · exact absurd c7 (by decide)
set_option maxRecDepth 65536 in
set_option maxHeartbeats 40000000 in
theorem comes_1 {Post : Tables → Env → Array Value → State → Outcome → State → Prop} (hpost : ∀ tb e args s v u, (limb_1_1.after args s (.returned v) u = true ∧ limb_1_2.after args s (.returned v) u = true ∧ True) → FrameEnd s (.returned v) u (Jvm.fieldLocs frame_1_writes args s ++ Jvm.arrayLocs frame_1_arrays args s ++ Jvm.staticLocs frame_1_statics s) 16 128 → Post tb e args s (.returned v) u) :
    ArmFor flags0 classFile x code maxLocals ret World_1 tables_1 room_1 Calls_1 rest_1 Pre_1 Post := by
  intro l hfl _ _ p e ha hc hk s m args below hf hA hF happ hP
  obtain ⟨hcalls, hrest, hpre⟩ := hP
  obtain ⟨-, -, -, hnamed, -, -, -, hat⟩ := (Spec.applies_iff hf).mp happ
  obtain ⟨hg, hn⟩ := and_e (Cond.before_iff.mp (show (Jvm.Cond.and given_1 narrow_1).before args s = true from hpre))
  obtain ⟨gc, g0⟩ := and_e hg
  obtain ⟨w_0, g1⟩ := and_e g0
  obtain ⟨w_1, g2⟩ := and_e g1
  obtain ⟨w_2, g3⟩ := and_e g2
  obtain ⟨w_3, g4⟩ := and_e g3
  have w_4 := g4
  obtain ⟨w0, w1, w2, w3, w4, rfl⟩ : ∃ w0 w1 w2 w3 w4 : Value, args = #[w0, w1, w2, w3, w4] := by
    have hs : args.size = 5 := by simpa [Cond.value, given_1] using gc
    obtain ⟨L⟩ := args
    match L, hs with
    | [w0, w1, w2, w3, w4], _ => exact ⟨w0, w1, w2, w3, w4, rfl⟩
  have hw := fun d (hd : d ∈ tables_1) => atoms_spec (ws := Jvm.Cond.code x code maxLocals ret :: tables_1) hat d (List.mem_cons_of_mem _ hd)
  have hfit : Fit s := fun {y c} hc i hi => by
    obtain ⟨ha, rfl⟩ := Array.getElem?_eq_some_iff.mp hc
    have q := List.all_eq_true.mp ((Array.all_eq_true_iff_forall_mem.mp hF) _ (Array.getElem_mem ha)) i (List.mem_range.mpr hi)
    simpa [Array.getElem?_eq_getElem hi] using q
  obtain ⟨i0, ei0⟩ := is_v w_0
  obtain rfl : w0 = (.int i0) := Option.some.inj ei0
  obtain ⟨i1, ei1⟩ := is_v w_1
  obtain rfl : w1 = (.int i1) := Option.some.inj ei1
  obtain ⟨i2, ei2⟩ := is_v w_2
  obtain rfl : w2 = (.int i2) := Option.some.inj ei2
  obtain ⟨i3, ei3⟩ := is_v w_3
  obtain rfl : w3 = (.int i3) := Option.some.inj ei3
  obtain ⟨i4, ei4⟩ := is_v w_4
  obtain rfl : w4 = (.int i4) := Option.some.inj ei4
  obtain ⟨n, o, h1, h2, h3, _, L, rfl, ⟨rfl, N⟩, hq⟩ := rm0 l s _ hw tables_1 i0 i1 i2 i3 i4 s.heap s.heap.size (Nat.le_refl _)  p e ha hc hk s m _ below hf ((Spec.applies_iff_loose hf).mp happ).1 ⟨rfl, State.Warmed39.refl s, rfl⟩ trivial
  refine ⟨n, _, h1, h2, h3, hpost _ _ _ _ _ _ ⟨Cond.after_iff.mpr rfl, Cond.after_iff.mpr (eq_i res_at (Term.int_eval (1)) rfl), trivial⟩ ⟨hq.1, hq.2.1, (hq.2.2.sift fun y hy => Or.inr (N y hy)).mono (by decide) (by decide)⟩⟩
theorem main_1_1 : Claimed_1_1 := comes_1 fun _ _ _ _ _ _ h hF => ⟨h.1, hF⟩
theorem main_1_2 : Claimed_1_2 := comes_1 fun _ _ _ _ _ _ h hF => ⟨h.2.1, hF⟩
end Jvm.Pilot.@@N@@
namespace Jvm.Pilot.@@N@@
open Jvm Jvm.ClassFile Sem Op Lib Jvm.Free Jvm.Stand Jvm.Pilot.@@N@@.Jvm.D
/-! MADE BY PROGRAM (witnessworld.py) out of the Statement's table words and the real class files: 9 classes; the members and pool entries that the words name. The judged class is class 1, her method 1. -/
namespace start1
open Jvm.ClassFile
def u (s : String) : CpInfo := .utf8 (stringToUtf16 s)
/-- a pool by its gaps: so many unusable entries, then the entry; so many at the end -/
def gap : Nat → List CpInfo → List CpInfo
  | 0, r => r
  | n + 1, r => .unusable :: gap n r
def poolList (es : List (Nat × CpInfo)) (last : Nat) : List CpInfo := es.foldr (fun e r => gap e.1 (e.2 :: r)) (gap last [])
def pool (es : List (Nat × CpInfo)) (last : Nat) : Array CpInfo := ⟨poolList es last⟩
def fileOf (pool : Array CpInfo) (this : Nat) (attrs : Array Attribute := #[]) (ms : Array MethodInfo := #[]) (fl : Nat := 33) (sup : Nat := 0) (ifs : Array Nat := #[]) (fds : Array FieldInfo := #[]) : ClassFile where
  minorVersion := 0
  majorVersion := 65
  constantPool := pool
  accessFlags := fl
  thisClass := this
  superClass := sup
  interfaces := ifs
  fields := fds
  methods := ms
  attributes := attrs
def plain (name : String) (sup : Option ClassId) : Class where
  name := name
  kind := .ordinary
  loader := none
  accessFlags := 33
  super := sup
  interfaces := #[]
  cf := none
  fields := #[]
  methods := #[]
  instanceTypes := #[]
  staticTypes := #[]
  resolved := #[]
  callSites := []
  init := .initialized
  statics := none
  mirror := none

def pool0 : Array CpInfo := pool [(5, u "<init>"), (0, u "()V"), (1, .class_ 10), (1, u "java/lang/Object")] 113

def k0m0 : Method := { name := "<init>", desc := "()V", sig := { parameters := [], returnType := none }, accessFlags := 1, code := none }
/-- java/lang/Object -/
def k0 : Class := { plain "java/lang/Object" none with
  accessFlags := 33
  interfaces := #[]
  cf := some (fileOf pool0 8 #[] #[{ accessFlags := 1, nameIndex := 5, descriptorIndex := 6, attributes := #[] }] 33 0 #[] #[])
  fields := #[]
  methods := #[k0m0]
  instanceTypes := #[]
  staticTypes := #[]
  resolved := Array.replicate 124 none
  statics := none }

def pool1 : Array CpInfo := pool [(2, .class_ 4), (1, u "java/lang/Object"), (0, u "<init>"), (0, u "()V"), (0, .methodref 8 9), (0, .class_ 10), (0, .nameAndType 11 12), (0, u "com/example/vertumnus/vertumnus/engine/Symmetry"), (0, u "then"), (0, u "([I[I)[I"), (0, .methodref 14 15), (0, .class_ 16), (0, .nameAndType 17 18), (0, u "com/example/vertumnus/vertumnus/engine/SymmetryThenPinLaw"), (0, u "pick"), (0, u "(IIII)I"), (2, u "law"), (0, u "(IIIII)Z")] 5

def k1m0 : Method := { name := "<init>", desc := "()V", sig := { parameters := [], returnType := none }, accessFlags := 2, code := none }
def k1c1 : Code := { maxStack := 5, maxLocals := 14, code := code, exceptionTable := #[], attributes := #[] }
def k1m1 : Method := { name := "law", desc := "(IIIII)Z", sig := { parameters := [.int, .int, .int, .int, .int], returnType := some .boolean }, accessFlags := 9, code := some k1c1 }
def k1c2 : Code := { maxStack := 2, maxLocals := 4, code := method_3_code, exceptionTable := #[], attributes := #[] }
def k1m2 : Method := { name := "pick", desc := "(IIII)I", sig := { parameters := [.int, .int, .int, .int], returnType := some .int }, accessFlags := 10, code := some k1c2 }
/-- com/example/vertumnus/vertumnus/engine/SymmetryThenPinLaw -/
def k1 : Class := { plain "com/example/vertumnus/vertumnus/engine/SymmetryThenPinLaw" (some 0) with
  accessFlags := 49
  interfaces := #[]
  cf := some (fileOf pool1 14 #[] #[{ accessFlags := 2, nameIndex := 5, descriptorIndex := 6, attributes := #[] }, { accessFlags := 9, nameIndex := 21, descriptorIndex := 22, attributes := #[] }, { accessFlags := 10, nameIndex := 17, descriptorIndex := 18, attributes := #[] }] 49 2 #[] #[])
  fields := #[]
  methods := #[k1m0, k1m1, k1m2]
  instanceTypes := #[]
  staticTypes := #[]
  resolved := Array.replicate 28 none
  statics := none }

def pool2 : Array CpInfo := pool [(2, .class_ 4), (1, u "java/lang/Object"), (3, .class_ 10), (1, u "com/example/vertumnus/vertumnus/engine/Symmetry"), (0, u "model"), (0, u "Lcom/example/vertumnus/vertumnus/engine/Model;"), (8, u "groups"), (0, u "Ljava/util/List;"), (11, u "[I"), (2, u "clocksOf"), (0, u "[[I"), (2, u "variablesOf"), (15, u "groupOf"), (40, u "members"), (4, u "fixed"), (99, .class_ 204), (0, u "com/example/vertumnus/vertumnus/engine/Symmetry$Arrangement"), (252, u "then"), (0, u "([I[I)[I")] 81

def k2c0 : Code := { maxStack := 5, maxLocals := 4, code := prog_49_method_4_code, exceptionTable := #[], attributes := #[] }
def k2m0 : Method := { name := "then", desc := "([I[I)[I", sig := { parameters := [(.array .int), (.array .int)], returnType := some (.array .int) }, accessFlags := 8, code := some k2c0 }
/-- com/example/vertumnus/vertumnus/engine/Symmetry -/
def k2 : Class := { plain "com/example/vertumnus/vertumnus/engine/Symmetry" (some 0) with
  accessFlags := 32
  interfaces := #[]
  cf := some (fileOf pool2 8 #[.nestMembers #[203]] #[{ accessFlags := 8, nameIndex := 457, descriptorIndex := 458, attributes := #[] }] 32 2 #[] #[{ accessFlags := 18, nameIndex := 11, descriptorIndex := 12, attributes := #[] }, { accessFlags := 18, nameIndex := 21, descriptorIndex := 22, attributes := #[] }, { accessFlags := 18, nameIndex := 98, descriptorIndex := 34, attributes := #[] }, { accessFlags := 18, nameIndex := 57, descriptorIndex := 34, attributes := #[] }, { accessFlags := 18, nameIndex := 103, descriptorIndex := 34, attributes := #[] }, { accessFlags := 18, nameIndex := 37, descriptorIndex := 38, attributes := #[] }, { accessFlags := 18, nameIndex := 41, descriptorIndex := 38, attributes := #[] }])
  fields := #[{ name := "model", type := (.object "com/example/vertumnus/vertumnus/engine/Model"), accessFlags := 18, slot := 0, constantValue := 0 }, { name := "groups", type := (.object "java/util/List"), accessFlags := 18, slot := 1, constantValue := 0 }, { name := "members", type := (.array .int), accessFlags := 18, slot := 2, constantValue := 0 }, { name := "groupOf", type := (.array .int), accessFlags := 18, slot := 3, constantValue := 0 }, { name := "fixed", type := (.array .int), accessFlags := 18, slot := 4, constantValue := 0 }, { name := "clocksOf", type := (.array (.array .int)), accessFlags := 18, slot := 5, constantValue := 0 }, { name := "variablesOf", type := (.array (.array .int)), accessFlags := 18, slot := 6, constantValue := 0 }]
  methods := #[k2m0]
  instanceTypes := #[(.object "com/example/vertumnus/vertumnus/engine/Model"), (.object "java/util/List"), (.array .int), (.array .int), (.array .int), (.array (.array .int)), (.array (.array .int))]
  staticTypes := #[]
  resolved := Array.replicate 540 none
  statics := none }

def pool3 : Array CpInfo := pool [(1, u "java/lang/Cloneable"), (0, .class_ 1), (0, u "java/lang/Object"), (0, .class_ 3)] 3

/-- java/lang/Cloneable -/
def k3 : Class := { plain "java/lang/Cloneable" (some 0) with
  accessFlags := 1537
  interfaces := #[]
  cf := some (fileOf pool3 2 #[] #[] 1537 4 #[] #[])
  fields := #[]
  methods := #[]
  instanceTypes := #[]
  staticTypes := #[]
  resolved := Array.replicate 8 none
  statics := none }

def pool4 : Array CpInfo := pool [(1, u "java/io/Serializable"), (0, .class_ 1), (0, u "java/lang/Object"), (0, .class_ 3)] 3

/-- java/io/Serializable -/
def k4 : Class := { plain "java/io/Serializable" (some 0) with
  accessFlags := 1537
  interfaces := #[]
  cf := some (fileOf pool4 2 #[] #[] 1537 4 #[] #[])
  fields := #[]
  methods := #[]
  instanceTypes := #[]
  staticTypes := #[]
  resolved := Array.replicate 8 none
  statics := none }

/-- the primitive byte -/
def k5 : Class := { plain "byte" none with kind := .primitive 'B', accessFlags := 0x411 }
/-- [B -/
def k6 : Class := { plain "[B" (some 0) with kind := .array 5 .byte, interfaces := #[3, 4], accessFlags := 1041 }

/-- the primitive int -/
def k7 : Class := { plain "int" none with kind := .primitive 'I', accessFlags := 0x411 }
/-- [I -/
def k8 : Class := { plain "[I" (some 0) with kind := .array 7 .int, interfaces := #[3, 4], accessFlags := 1041 }

def heap : Heap := #[]
def classes : Array Class := #[k0, k1, k2, k3, k4, k5, k6, k7, k8]
def interned : List (Array UInt16 × Addr) := []
def slotsUsed : Nat := 0
def theMethod : MethodId := ⟨1, 1⟩
def args0 : Array Value := #[.int 0, .int 1, .int 2, .int 3, .int 4]
def aboutOver (below : List Frame) : State where
  vm := { classes := classes, interned := interned.toArray }
  heap := heap
  slotsUsed := slotsUsed
  threads := #[{ frames := .invoking theMethod args0 :: below }]
def below0 : List Frame := [.native { method := ⟨0, 0⟩, args := #[] }]
def about1 : State := aboutOver below0
def p0 : Program := .bare "" "" ""
def e0 : Env := launch0.env 0 0 0
theorem w_frames : about1.frames = Frame.invoking theMethod args0 :: below0 := rfl
set_option maxRecDepth 65536 in
theorem w_args : argsFit about1.vm theMethod args0 = true := by decide +kernel
set_option maxRecDepth 65536 in
theorem w_heap : heapFits about1 = true := by decide +kernel
set_option maxRecDepth 65536 in
theorem w_runnable : about1.curStatus? = some .runnable := by decide +kernel
set_option maxRecDepth 65536 in
theorem w_alone : about1.alone = true := by decide +kernel
set_option maxRecDepth 65536 in
theorem w_named : about1.methodNamed? x = some theMethod := by decide +kernel
set_option maxRecDepth 65536 in
theorem w_hears : about1.hears theMethod below0 = true := by decide +kernel
set_option maxRecDepth 65536 in
theorem w_ripe : about1.ripe theMethod args0 below0 = true := by decide +kernel
theorem w_running : about1.status = .running := rfl
set_option maxRecDepth 65536 in
theorem w_room : about1.hasRoom e0.platform room_1 = true :=
  launch0.hasRoom_least _ room_1 (by decide +kernel) (by decide +kernel) (by decide +kernel) (by decide +kernel) (by decide +kernel) (by decide +kernel)
theorem allAtoms_all (ts : List Jvm.Cond) (a : Array Jvm.Value) (st : Jvm.State) : (allAtoms ts).before a st = ts.all (fun c => c.before a st) := by
  induction ts with
  | nil => rfl
  | cons c t ih =>
    show (Jvm.Cond.and c (allAtoms t)).before a st = _
    rw [Jvm.Cond.before_and, ih, List.all_cons]
def words1 : List Jvm.Cond := Jvm.Cond.code x code maxLocals ret :: tables_1
/-- a 'code' word, met by the world's own term for the bytes: nothing is compared byte by byte -/
theorem code_word {y : MethodName} {bytes : ByteArray} {mx : Nat} {rt : Option FieldType} {a : Array Value} {s : State} {m : MethodId} {meth : Method} {c : Code} (h1 : s.methodNamed? y = some m) (h2 : s.vm.method? m = some meth) (h3 : meth.code = some c) (h4 : c.code = bytes)
    (h5 : (c.maxLocals == mx && c.exceptionTable.isEmpty && decide (c.maxStack ≤ mostOperands) && decide (meth.sig.returnType = rt) && !meth.locks && decide (parseMethodDescriptor y.desc = some meth.sig)) = true) : (Jvm.Cond.code y bytes mx rt).before a s = true := by
  simp only [Bool.and_eq_true, beq_iff_eq, Bool.not_eq_true', decide_eq_true_eq] at h5
  obtain ⟨⟨⟨⟨⟨g1, g2⟩, g3⟩, g4⟩, g5⟩, g6⟩ := h5
  simp [Cond.before, Cond.holds, Cond.value, h1, h2, h3, h4, g1, g2, g3, g4, g5, g6]
def isCode : Jvm.Cond → Bool
  | .code _ _ _ _ => true
  | _ => false
theorem all_split {L : List Jvm.Cond} {P : Jvm.Cond → Bool} (h1 : L.all (fun c => isCode c || P c) = true) (h2 : ∀ c ∈ L.filter isCode, P c = true) : L.all P = true := by
  refine List.all_eq_true.mpr fun c hc => ?_
  have h := List.all_eq_true.mp h1 c hc
  rcases Bool.eq_false_or_eq_true (isCode c) with hi | hi
  · exact h2 c (List.mem_filter.mpr ⟨hc, hi⟩)
  · simpa [hi] using h
set_option maxRecDepth 65536 in
theorem w_c0 : (Jvm.Cond.code x code maxLocals ret).before args0 about1 = true := code_word (m := ⟨1, 1⟩) (meth := k1m1) (c := k1c1) (by decide +kernel) rfl rfl rfl (by decide +kernel)
set_option maxRecDepth 65536 in
theorem w_c1 : (Jvm.Cond.code ({ cls := "com/example/vertumnus/vertumnus/engine/Symmetry", name := "then", desc := "([I[I)[I" } : Jvm.MethodName) prog_49_method_4_code (4 : Nat) (Option.some (Jvm.ClassFile.FieldType.array Jvm.ClassFile.FieldType.int))).before args0 about1 = true := code_word (m := ⟨2, 0⟩) (meth := k2m0) (c := k2c0) (by decide +kernel) rfl rfl rfl (by decide +kernel)
set_option maxRecDepth 65536 in
theorem w_c2 : (Jvm.Cond.code ({ cls := "com/example/vertumnus/vertumnus/engine/SymmetryThenPinLaw", name := "pick", desc := "(IIII)I" } : Jvm.MethodName) method_3_code (4 : Nat) (Option.some Jvm.ClassFile.FieldType.int)).before args0 about1 = true := code_word (m := ⟨1, 2⟩) (meth := k1m2) (c := k1c2) (by decide +kernel) rfl rfl rfl (by decide +kernel)
def codes1 : List Jvm.Cond := [Jvm.Cond.code x code maxLocals ret, Jvm.Cond.code ({ cls := "com/example/vertumnus/vertumnus/engine/Symmetry", name := "then", desc := "([I[I)[I" } : Jvm.MethodName) prog_49_method_4_code (4 : Nat) (Option.some (Jvm.ClassFile.FieldType.array Jvm.ClassFile.FieldType.int)), Jvm.Cond.code ({ cls := "com/example/vertumnus/vertumnus/engine/SymmetryThenPinLaw", name := "pick", desc := "(IIII)I" } : Jvm.MethodName) method_3_code (4 : Nat) (Option.some Jvm.ClassFile.FieldType.int)]
set_option maxRecDepth 65536 in
theorem codes_eq : words1.filter isCode = codes1 := rfl
theorem w_codes : ∀ c ∈ words1.filter isCode, c.before args0 about1 = true := by
  rw [codes_eq]
  intro c hc
  simp only [codes1, List.mem_cons, List.not_mem_nil, or_false] at hc
  rcases hc with rfl | rfl | rfl
  · exact w_c0
  · exact w_c1
  · exact w_c2
set_option maxRecDepth 65536 in
theorem w_t1 : words1.all (fun c => isCode c || c.before args0 about1) = true := by decide +kernel
theorem w_tables : (allAtoms (Jvm.Cond.code x code maxLocals ret :: tables_1)).before args0 about1 = true := by
  rw [allAtoms_all]
  show words1.all (fun c => c.before args0 about1) = true
  refine all_split ?_ w_codes
  rw [w_t1]
set_option maxRecDepth 65536 in
theorem w_case : (Jvm.Cond.and given_1 narrow_1).before args0 about1 = true := by decide +kernel
theorem w_applies : (headSpec (Jvm.Cond.code x code maxLocals ret :: tables_1) room_1).applies x e0.platform about1 = true :=
  (Spec.applies_iff w_frames).mpr ⟨w_running, w_runnable, w_alone, w_named, w_hears, w_ripe, w_room, w_tables⟩
theorem atStart : AtStart classFile x code maxLocals ret World_1 tables_1 room_1 Calls_1 rest_1 Pre_1 launch0 p0 e0 about1 theMethod args0 below0 :=
  ⟨lists_1, trivial, launch0.admits_env _ _ _, launch0.least_env, fairChoices_fair.cas, fairChoices_fair.clock, w_frames, w_args, w_heap, w_applies, trivial, trivial, w_case⟩
end start1
theorem witness_1 : WitnessClaimed_1 := ⟨start1.p0, start1.e0, start1.about1, start1.theMethod, start1.args0, start1.below0, start1.atStart⟩
end Jvm.Pilot.@@N@@
