import PyProof.Rows.All
import OpenK.ZGo
import Wide.FinOn
import KE.KCallOwn
import KE.KRevSl
import KE.KSuper
import KE.KData
import KE.KSortTup
import KE.KStateDown
import PySem.Challenge.RW_xt0006_01
set_option Elab.async false
set_option linter.unusedVariables false
set_option maxRecDepth 100000
set_option genSizeOf false
set_option genInjectivity false
set_option bootstrap.genMatcherCode false
set_option tactic.hygienic false
set_option maxHeartbeats 0
open PySem PySem.W PyProof.Rows
namespace Mine
section
open PySem PySem.W PySem.Calls PyProof.Rows PySem.SeqAt
noncomputable def aT (i:Nat):Stmt:=(PySem.Challenge.pw_xt0006_01.main.body[i]?).getD (.Pass ⟨0,0,0,0⟩)
noncomputable def dW:Stmt->List Stmt
 | .FunctionDef (body:=b) .. => b
 | .ClassDef (body:=b) .. => b
 | _=>[]
noncomputable def aR:Stmt->Scope
 | .FunctionDef (scope:=s) .. => s
 | _=>default
noncomputable def uV:Stmt->Arguments
 | .FunctionDef (args:=s) .. => s
 | _=>default
noncomputable def ipv:Array Nat:=#[14,8,1,2,4294967295,1,1,46,0,16,46,24,9,1,4294967295,13,4,8,0,0,1,6,5,1]
noncomputable def o5:Array Nat:=#[14,4,0,8,4294967295,24,5,0,4294967295,2,1,16,70,16,76,16,65,16,71,16,83,16,32,16,40,17,0,24,6,0,4294967295,20,41,1,17,1,16,41,1]
noncomputable def oH (i:Nat):Stmt:=((dW (aT 10))[i]?).getD (.Pass ⟨0,0,0,0⟩)
structure SetIn (K:Frag) (T:Addr):Prop where
 sa:findIn K (.ref T) "__setattr__" = some (some (.builtin "object.__setattr__"))
 cd:∃cd,clsIn K T=some cd/\cd.mro=[.ref T,.type "list",.type "object"]/\cd.hasDict=true
 no:findIn K (.ref T) "_initial_size" = some none
structure MakeIn (K:Frag) (T fI:Addr):Prop where
 obj:∃oc od cd sl,K.lookup T=some ⟨oc,od,.cls cd,sl⟩/\cd.abstract=false/\cd.hasDel=false/\cd.mro=[.ref T,.type "list",.type "object"]/\cd.hasDict=true/\(sl.toList[4]?).join=some (.builtin "list.__new__")
 call:specialIn K (.ref T) "__call__" = some (some (.builtin "type.__call__"))
 typ:instIn K (.ref T) (.type "type")=some true
 init:findIn K (.ref T) "__init__" = some (some (.ref fI))
 fn:typeIn K (.ref fI)=some (.type "function")
noncomputable def c9 (K:Frag) (a:Addr):Obj:=(K.lookup a).getD { cls:=.none }
noncomputable def c7 (K:Frag) (f:Addr):FuncData:=match (c9 K f).data with | .func fd=>fd|_=>default
noncomputable def cW (K:Frag) (c:Addr):Array Value:=match (c9 K c).data with | .fields vs=>vs|_ => #[]
noncomputable def EX:Value->Str | .str x _=>x|_ => ""
noncomputable def oG:Value->Tok | .str _ t=>t | .int _ t=>t|_=>0
noncomputable def KJ:Value->Int | .int i _=>i|_=>0
noncomputable def LO:Value->Bool | .bool b=>b|_=>false
noncomputable abbrev l9:List Addr:=[99,106]
structure FnK (K:Frag) (f c:Addr) (st:Stmt) (cl:List (Str×Addr)):Prop where
 look:K.lookup f=some (c9 K f)
 data:(c9 K f).data=.func (c7 K f)
 body:(c7 K f).body=.stmts (dW st)
 clo:(c7 K f).closure=cl
 glob:(c7 K f).globals=mainGlobals
 blt:(c7 K f).builtins=builtinsNs
 scope:(c7 K f).scope=aR st
 params:(c7 K f).params=uV st
 code:(c7 K f).code=.ref c
 clook:K.lookup c=some (c9 K c)
 cdata:(c9 K c).data=.fields (cW K c)
 q:(cW K c)[1]? = some (.str (c7 K f).qualname (oG ((cW K c).getD 1 .none)))
structure MK (prog:Program) (K:Frag) (f c:Addr):Prop where
 f2:(cW K c)[2]? = some (.str (EX ((cW K c).getD 2 .none)) (oG ((cW K c).getD 2 .none)))
 file:((prog.main.file:Str)==EX ((cW K c).getD 2 .none))=true
 kind:((c7 K f).scope.kind==.function)=true
 co:(c7 K f).scope.isCoroutine=false
 gen:(c7 K f).scope.isGenerator=false
 cells:((c7 K f).scope.names.all fun x=>x.2 != .cell)=true
structure TabK (K:Frag) (c P:Addr):Prop where
 cls:(c9 K c).cls=.type "code"
 f11:(cW K c)[11]? = some (.ref P)
 d11:(cW K c).getD 11 .none=.ref P
 d18:(cW K c).getD 18 .none=.str (EX ((cW K c).getD 18 .none)) (oG ((cW K c).getD 18 .none))
 d7:(cW K c).getD 7 .none=.int (KJ ((cW K c).getD 7 .none)) (oG ((cW K c).getD 7 .none))
 d9:(cW K c).getD 9 .none=.bool (LO ((cW K c).getD 9 .none))
 d10:(cW K c).getD 10 .none=.int (KJ ((cW K c).getD 10 .none)) (oG ((cW K c).getD 10 .none))
 tab:K.lookup P=some { cls:=.none,data:=.fields #[] }
 clook:K.lookup c=some (c9 K c)
 cdata:(c9 K c).data=.fields (cW K c)
noncomputable def K0 (K:Frag) (c:Addr):Array Value:=match (c9 K c).data with | .seq vs _=>vs|_ => #[]
noncomputable def Q4 (K:Frag) (c:Addr):Nat:=match (c9 K c).data with | .seq _ n=>n|_=>0
noncomputable def OO (K:Frag) (c:Addr):Nat:=match (c9 K c).data with | .dict _ n=>n|_=>0
noncomputable def JQ (K:Frag) (c:Addr):Tok×Tok:=match (c9 K c).data with | .dict es _=>(match es.toList with | [e]=>(oG e.key,oG e.val)|_=>(0,0))|_=>(0,0)
noncomputable def qQ (K:Frag) (c:Addr):ClassData:=match (c9 K c).data with | .cls cd=>cd|_=>default
noncomputable def N9 (K:Frag) (c:Addr):Array (Option Value):=(c9 K c).slots
noncomputable def N1 (K:Frag) (x:Str):Tok:=match nsIn K mainGlobals x with|some (some v)=>oG v|_=>0
structure PatK (K:Frag) (p c:Addr) (code:Array Nat) (groups kind:Nat) (names:Value):Prop where
 look:K.lookup p=some (c9 K p)
 cls:(c9 K p).cls=.type "re.Pattern"
 dict:(c9 K p).dict=none
 data:(c9 K p).data=.fields (cW K p)
 f2:(cW K p).getD 2 .none=rawInt groups
 f3:(cW K p).getD 3 .none=names
 f5:(cW K p).getD 5 .none=.ref c
 f6:(cW K p).getD 6 .none=rawInt kind
 clook:K.lookup c=some (c9 K c)
 cdata:(c9 K c).data=.seq (K0 K c) (Q4 K c)
 code:((K0 K c).map Builtin.Re.reRawOf).map (·.toNat)=code
noncomputable def kf (K:Frag):Frag:=K.filter fun p => !l9.contains p.1
structure KAll (prog:Program) (P:Params) (K:Frag):Prop where
 f4:FnK K 50 49 (aT 4) []
 f7:FnK K 57 56 (aT 7) []
 f13:FnK K 153 152 (aT 13) []
 f14:FnK K 160 159 (aT 14) []
 f16:FnK K 167 166 (aT 16) []
 f17:FnK K 172 171 (aT 17) []
 f18:FnK K 179 178 (aT 18) []
 f19:FnK K 184 183 (aT 19) []
 f20:FnK K 189 188 (aT 20) []
 f21:FnK K 194 193 (aT 21) []
 f22:FnK K 199 198 (aT 22) []
 m0:FnK K 74 73 (oH 0) [("__class__",61)]
 m1:FnK K 81 80 (oH 1) []
 m3:FnK K 97 96 (oH 3) [("__class__",61)]
 m4:FnK K 104 103 (oH 4) []
 m5:FnK K 111 110 (oH 5) []
 m8:FnK K 134 133 (oH 8) [("__class__",61)]
 k0:MK prog K 74 73
 k1:MK prog K 81 80
 k3:MK prog K 97 96
 k4:MK prog K 104 103
 k5:MK prog K 111 110
 k8:MK prog K 134 133
 t4:TabK K 103 99
 t5:TabK K 110 106
 b4:∀a,bindArgs (c7 K 50) ⟨[a],[]⟩=pure [(("resp":Str),a)]
 b7:∀a b,bindArgs (c7 K 57) ⟨[a,b],[]⟩=pure [(("want":Str),a),("got",b)]
 b13:∀a,bindArgs (c7 K 153) ⟨[a],[]⟩=pure [(("text":Str),a)]
 b14:∀a b,bindArgs (c7 K 160) ⟨[a,b],[]⟩=pure [(("A":Str),a),("B",b)]
 b16:∀a,bindArgs (c7 K 167) ⟨[a],[]⟩=pure [(("number":Str),a)]
 b17:∀a,bindArgs (c7 K 172) ⟨[a],[]⟩=pure [(("number":Str),a)]
 b18:∀a b,bindArgs (c7 K 179) ⟨[a,b],[]⟩=pure [(("one":Str),a),("two",b)]
 b19:∀a b c,bindArgs (c7 K 184) ⟨[a,b,c],[]⟩=pure [(("ahead":Str),a),("behind",b),("y",c)]
 b20:∀a b,bindArgs (c7 K 189) ⟨[a,b],[]⟩=pure [(("ahead":Str),a),("behind",b)]
 b21:∀a b,bindArgs (c7 K 194) ⟨[a,b],[]⟩=pure [(("hosts":Str),a),("lies",b)]
 b22:∀a,bindArgs (c7 K 199) ⟨[a],[]⟩=pure [(("script":Str),a)]
 c0:∀(S:Setting) (a b:Value),peek (kf K) S (bindArgs (c7 K 74) ⟨[a,b],[]⟩)=some [(("self":Str),a),("initial_size",b)]
 c1:∀a b c,bindArgs (c7 K 81) ⟨[a,b,c],[]⟩=pure [(("self":Str),a),("fws",b),("string",c)]
 c3:∀a,bindArgs (c7 K 97) ⟨[a],[]⟩=pure [(("self":Str),a)]
 c4:∀a,bindArgs (c7 K 104) ⟨[a],[]⟩=pure [(("self":Str),a)]
 c5:∀a,bindArgs (c7 K 111) ⟨[a],[]⟩=pure [(("self":Str),a)]
 c8:∀a,bindArgs (c7 K 134) ⟨[a],[]⟩=pure [(("self":Str),a)]
 p1:PatK K 43 42 o5 1 1 (.ref 40)
 p2:PatK K 146 145 ipv 0 0 .none
 n1:K.lookup 40=some ⟨.type "dict",none,.dict #[⟨PyData.keyHash P "flags",.str "flags" (JQ K 40).1,.int 1 (JQ K 40).2⟩] (OO K 40),#[]⟩
 set:SetIn (kf K) 137
 make:MakeIn (kf K) 137 74
 ga:findIn (kf K) (.ref 137) "__getattribute__" = some (some (.builtin "list.__getattribute__"))
 gx:findIn (kf K) (.ref 137) "__getattr__" = some none
 lst:mroIn (kf K) 137 (.type "list")=some true
 obj:mroIn (kf K) 137 (.type "object")=some true
 iter:findIn (kf K) (.ref 137) "__iter__" = some (some (.builtin "list.__iter__"))
 app:findIn (kf K) (.ref 137) "append" = some (some (.builtin "list.append"))
 celll:K.lookup 61=some (c9 K 61)
 cell:(c9 K 61).data=.cell (some (.ref 137))
 self:mroIn (kf K) 137 (.ref 137)=some true
 cd:clsIn (kf K) 137=some (qQ K 137)
 cdq:((qQ K 137).qualname == "_Accumulator")=true
 cdm:((qQ K 137).mro.dropWhile (· != .ref 137)).drop 1=[.type "list",.type "object"]
 typ:typeIn (kf K) (.ref 137)=some (.type "type")
 mod:mroIn (kf K) 137 (.type "module")=some false
 opq:nsIn (kf K) cStatics "thirdparty.any" = some none
 sup:(prog.main.scope.names.lookup ("super":Str)).isSome=false
 hPush:findIn (kf K) (.ref 137) "push" = some (some (.ref 81))/\typeIn (kf K) (.ref 81)=some (.type "function")
 hPop:findIn (kf K) (.ref 137) "pop" = some (some (.ref 97))/\typeIn (kf K) (.ref 97)=some (.type "function")
 hLen:findIn (kf K) (.ref 137) "__len__" = some (some (.ref 104))/\typeIn (kf K) (.ref 104)=some (.type "function")
 hStr:findIn (kf K) (.ref 137) "__str__" = some (some (.ref 111))/\isFn (kf K) (.ref 111)=true
 hPc:findIn (kf K) (.ref 137) "part_count" = some (some (.ref 134))/\typeIn (kf K) (.ref 134)=some (.type "function")
 lpop:alongIn (kf K) "pop" [.type "list",.type "object"]=some (some (.builtin "list.pop"))
 keep:keepIn (kf K) (.ref 137)=true
 gPF:nsIn K mainGlobals "ParseFlags" = some (some (.ref 50))
 gEM:nsIn K mainGlobals "_ellipsis_match" = some (some (.ref 57))
 gHD:nsIn K mainGlobals "is_HDN" = some (some (.ref 153))
 gDM:nsIn K mainGlobals "domain_match" = some (some (.ref 160))
 gRo:nsIn K mainGlobals "_law_row" = some (some (.ref 167))
 gMe:nsIn K mainGlobals "_law_members" = some (some (.ref 172))
 gOr:nsIn K mainGlobals "_law_order" = some (some (.ref 179))
 gHo:nsIn K mainGlobals "_law_host" = some (some (.ref 184))
 gCo:nsIn K mainGlobals "_law_companies" = some (some (.ref 189))
 gRe:nsIn K mainGlobals "_law_read" = some (some (.ref 194))
 gAc:nsIn K mainGlobals "_Accumulator" = some (some (.ref 137))
 gFl:nsIn K mainGlobals "Flags" = some (some (.ref 43))
 gIp:nsIn K mainGlobals "IPV4_RE" = some (some (.ref 146))
 gEl:nsIn K mainGlobals "ELLIPSIS_MARKER" = some (some (.str "..." (N1 K "ELLIPSIS_MARKER")))
 gEs:nsIn K mainGlobals "EMPTYSTRING" = some (some (.str "" (N1 K "EMPTYSTRING")))
 none_:(["range","len","sorted","set","list","tuple","str","super","sum"]:List Str).all (fun x=>match nsIn K mainGlobals x with|some none=>true|_=>false)=true
theorem set_of {K:Frag} (h1:findIn K (.ref 137) "__setattr__" = some (some (.builtin "object.__setattr__"))) (h2:clsIn K 137=some (qQ K 137)) (h3:(qQ K 137).mro=[.ref 137,.type "list",.type "object"]) (h4:(qQ K 137).hasDict=true) (h5:findIn K (.ref 137) "_initial_size" = some none):SetIn K 137:=⟨h1,⟨_,h2,h3,h4⟩,h5⟩
theorem make_of {K:Frag} (h1:K.lookup 137=some ⟨(c9 K 137).cls,(c9 K 137).dict,.cls (qQ K 137),N9 K 137⟩) (h2:(qQ K 137).abstract=false) (h3:(qQ K 137).hasDel=false) (h4:(qQ K 137).mro=[.ref 137,.type "list",.type "object"]) (h5:(qQ K 137).hasDict=true)
  (h6:((N9 K 137).toList[4]?).join=some (.builtin "list.__new__")) (h7:specialIn K (.ref 137) "__call__" = some (some (.builtin "type.__call__"))) (h8:instIn K (.ref 137) (.type "type")=some true) (h9:findIn K (.ref 137) "__init__" = some (some (.ref 74))) (h10:typeIn K (.ref 74)=some (.type "function")):MakeIn K 137 74:=
 ⟨⟨_,_,_,_,h1,h2,h3,h4,h5,h6⟩,h7,h8,h9,h10⟩
noncomputable def LawGo:Prop:=∀ {K:Frag} {prog:Program} {w:World} {s₁:Shared} {mg mb:Str->Option Value} {Q:Value->Shared->Prop} {E:Value->Shared->Prop} {zs:List Int} {vs:List Value} (KX:K.In s₁.heap) (k:KAll prog w.params K)
  (nl:s₁.heap.NoLimit) (hG:s₁.heap.Ns mainGlobals mg) (hB:s₁.heap.Ns builtinsNs mb) (hb:∀x:Str,x ≠ "__name__" -> mb x=bootBuiltins x)
  (bm:∃bm ob,mg "__builtins__" = some (.ref bm)/\bm≠builtinsNs/\s₁.heap.get? bm=some ob/\ob.cls=.type "module" /\ ob.dict=some builtinsNs/\ob.data=.plain)
  (hg:s₁.gens = #[]) (hl:s₁.heap.get? 200=some { cls:=.type "list",data:=.seq vs.toArray }) (hi:IntsAre vs zs) (hz:zs.length<=63)
  (h:∀s',OldK s₁.heap s'.heap->s'.os=s₁.os->AllBare s'.gens->Q (.bool true) s'),wpAny (model prog w) callerA (call (.ref 199) [.ref 200]) Q E s₁
end
end Mine
section
set_option tactic.hygienic true
open PySem PySem.W PySem.W.X PySem.W.ZRun PyProof.Rows
namespace Mine.Hd.PySem.W
theorem holds_openX {r : OpenRow} {q : Program} {loose : List Str} {Xt : Shared → Bool} {XP : (Str → Option Value) → Heap → Prop} {α : Type} {Yf : Shared → α} {Ya : World → α} {d : DefRec} {kwd : List (Str × Expr)} {N : Nat}
 (x1 : LeftO r.prog q loose Xt Yf Ya N) (x2 : ∀ s, Xt s = true → XP (s.heap.nsMap mainGlobals) s.heap) (x3 : ∀ mg h h', XP mg h → (∀ b o, h.get? b = some o → h'.get? b = some o) → XP mg h')
 (x4 : defOf q r.name = some (d, kwd)) (x5 : r.prog.theDef r.name = some (d.params, d.body, d.scope)) (x6 : kwWritten? d.params.kwonlyargs d.params.kw_defaults = some kwd) (x7 : ∀ s, Xt s = true → RecFacts r.records s.heap)
 (x8 : (!r.writes || r.records.isEmpty) = true) (x9 : r.wellSaid = true) (x10 : (chainsOk q && opensWell r.prog && (frees r.toRowW && r.within.isEmpty)) = true) (x11 : r.prog.bare) (x12 : r.toRowW.promised)
 (go : LawGo → WalkX q loose XP Yf Ya r.toRowW d kwd fun f vs => call f vs) (law : LawGo := by assumption) : r.Holds :=
 _root_.PySem.W.holds_openX x1 x2 x3 x4 x5 x6 x7 x8 x9 x10 x11 x12 (go law)
end Mine.Hd.PySem.W
namespace Mine.Hd
theorem head_first (law : LawGo) : PySem.Challenge.rw_xt0006_01.Holds := by
  w_on; refine holds_law (by decide +kernel) fun said => ?_
  z_head
  case hw => w_witness2
  intro law
  k_fill
  intro w s₀ s₁ mg mb G y fa o pm cd doc dV kV ho hd hcd hD hmg hg args vals as L hpre hlay hrd hwl hlo
  z_open y L KX ZH ZN ZT
  refine Ground.open G ?_
  intro T B D TE TW
  wrow_args hpre hlay hrd hwl hlo
  obtain ⟨hat, hsz⟩ := script_at L
  rw [ZN] at hat hsz
  subst hat
  x_fa T KX hmg
  clear ho hd hcd hD hmg TE TW B D G y ZH
  rename IntsAre _ _ => hI
  rename Heap.IsList _ _ _ => hLs
  rename ¬(_ < _) => hc
  refine law KX ?_ T.nolimit T.g T.b T.builtins T.bmain hg (script_obj L hLs) hI (by omega) fun s' h1 h2 h3 => ⟨.inl ⟨.bool true, .bool true, [], rfl, fun _ => rfl, .bool true, ?_, fun _ => ⟨.nil, fun _ h => nomatch h⟩⟩, h1, h2, h3⟩
  · constructor
    all_goals first
      | kernel_rfl
      | (refine set_of ?_ ?_ ?_ ?_ ?_ <;> kernel_rfl)
      | (refine make_of ?_ ?_ ?_ ?_ ?_ ?_ ?_ ?_ ?_ ?_ <;> kernel_rfl)
      | (constructor <;> kernel_rfl)
      | (intro a; kernel_rfl)
      | (intro a b; kernel_rfl)
      | (intro a b c; kernel_rfl)
  · first
      | rfl
      | wrow_post
end Mine.Hd
end
namespace Mine
section
open PySem PySem.W PySem.Calls PyProof.Rows PySem.SeqAt
theorem tO:PlainAttrs "re.Pattern":=
 ⟨⟨"object.__getattribute__",by rw [typeLookup_type,builtinLookup_eq_fast]; kernel_rfl,by decide +kernel⟩,by rw [typeLookup_type,builtinLookup_eq_fast]; kernel_rfl⟩
theorem DB:PlainAttrs "re.Match":=
 ⟨⟨"object.__getattribute__",by rw [typeLookup_type,builtinLookup_eq_fast]; kernel_rfl,by decide +kernel⟩,by rw [typeLookup_type,builtinLookup_eq_fast]; kernel_rfl⟩
theorem jQ:Slot "re.Pattern" "search" "re.Pattern.search":=
 .of (owner:="re.Pattern") (n:="search") (by rw [typeLookup_type,builtinLookup_eq_fast]; kernel_rfl) (by decide +kernel) (by decide +kernel) (by decide +kernel)
  (by first|exact .inl (by decide +kernel)|exact .inr (by decide +kernel)) (by rw [isSubtype_type]; kernel_rfl)
theorem o4:typeOf (.builtin "re.Pattern.search")=pure (.type "method_descriptor"):=by show builtinType _=_; rw [builtinType_eq_fast]; kernel_rfl
theorem n7:entryFor table "re.Pattern.search" = some Builtin.«re.Pattern.search»:=entryFor_of_tree (by kernel_rfl)
theorem oW (a b:Value):argsOk "re.Pattern.search" ⟨[a,b],[]⟩:=by
 unfold argsOk; kernel_rfl
theorem j9:Slot "re.Pattern" "match" "re.Pattern.match":=
 .of (owner:="re.Pattern") (n:="match") (by rw [typeLookup_type,builtinLookup_eq_fast]; kernel_rfl) (by decide +kernel) (by decide +kernel) (by decide +kernel)
  (by first|exact .inl (by decide +kernel)|exact .inr (by decide +kernel)) (by rw [isSubtype_type]; kernel_rfl)
theorem r4:typeOf (.builtin "re.Pattern.match")=pure (.type "method_descriptor"):=by show builtinType _=_; rw [builtinType_eq_fast]; kernel_rfl
theorem oY:entryFor table "re.Pattern.match" = some Builtin.«re.Pattern.match»:=entryFor_of_tree (by kernel_rfl)
theorem qE (a b:Value):argsOk "re.Pattern.match" ⟨[a,b],[]⟩:=by
 unfold argsOk; kernel_rfl
theorem kB:Slot "re.Match" "group" "re.Match.group":=
 .of (owner:="re.Match") (n:="group") (by rw [typeLookup_type,builtinLookup_eq_fast]; kernel_rfl) (by decide +kernel) (by decide +kernel) (by decide +kernel)
  (by first|exact .inl (by decide +kernel)|exact .inr (by decide +kernel)) (by rw [isSubtype_type]; kernel_rfl)
theorem qA:typeOf (.builtin "re.Match.group")=pure (.type "method_descriptor"):=by show builtinType _=_; rw [builtinType_eq_fast]; kernel_rfl
theorem oX:entryFor table "re.Match.group" = some Builtin.«re.Match.group»:=entryFor_of_tree (by kernel_rfl)
theorem rL (a b:Value):argsOk "re.Match.group" ⟨[a,b],[]⟩:=by
 unfold argsOk; kernel_rfl
theorem j6:Slot "bytes" "split" "bytes.split":=
 .of (owner:="bytes") (n:="split") (by rw [typeLookup_type,builtinLookup_eq_fast]; kernel_rfl) (by decide +kernel) (by decide +kernel) (by decide +kernel)
  (by first|exact .inl (by decide +kernel)|exact .inr (by decide +kernel)) (by rw [isSubtype_type]; kernel_rfl)
theorem rS:typeOf (.builtin "bytes.split")=pure (.type "method_descriptor"):=by show builtinType _=_; rw [builtinType_eq_fast]; kernel_rfl
theorem o0:entryFor table "bytes.split" = some Builtin.«bytes.split»:=entryFor_of_tree (by kernel_rfl)
theorem rN (a:Value):argsOk "bytes.split" ⟨[a],[]⟩:=by
 unfold argsOk; kernel_rfl
end
section
open PySem PySem.W PySem.Calls PyProof.Rows PySem.SeqAt Builtin
theorem oS:Slot "wrapper_descriptor" "__get__" "wrapper_descriptor.__get__":=.of (owner:="wrapper_descriptor") (n:="__get__") (by rw [typeLookup_type,builtinLookup_eq_fast]; kernel_rfl) (by decide +kernel) (by decide +kernel) (by decide +kernel)
 (by first|exact .inl (by decide +kernel)|exact .inr (by decide +kernel)) (by rw [isSubtype_type]; kernel_rfl)
theorem wQ:Slot "method_descriptor" "__get__" "method_descriptor.__get__":=.of (owner:="method_descriptor") (n:="__get__") (by rw [typeLookup_type,builtinLookup_eq_fast]; kernel_rfl) (by decide +kernel) (by decide +kernel) (by decide +kernel)
 (by first|exact .inl (by decide +kernel)|exact .inr (by decide +kernel)) (by rw [isSubtype_type]; kernel_rfl)
theorem mZ:entryFor table "wrapper_descriptor.__get__" = some Builtin.«wrapper_descriptor.__get__»:=entryFor_of_tree (by kernel_rfl)
theorem t8:entryFor table "method_descriptor.__get__" = some Builtin.«method_descriptor.__get__»:=entryFor_of_tree (by kernel_rfl)
theorem oA (a b c:Value):argsOk "wrapper_descriptor.__get__" ⟨[a,b,c],[]⟩:=by unfold argsOk; kernel_rfl
theorem v6 (a b c:Value):argsOk "method_descriptor.__get__" ⟨[a,b,c],[]⟩:=by unfold argsOk; kernel_rfl
theorem o9:typeOf (.builtin "list.__init__")=pure (.type "wrapper_descriptor"):=by show builtinType _=_; rw [builtinType_eq_fast]; kernel_rfl
theorem rD:typeOf (.builtin "list.__len__")=pure (.type "wrapper_descriptor"):=by show builtinType _=_; rw [builtinType_eq_fast]; kernel_rfl
theorem o8:plainId "list.__len__" = true:=by decide +kernel
theorem nK:plainId "list.__init__" = true:=by decide +kernel
theorem oV:plainId "list.pop" = true:=by decide +kernel
end
section
open PySem PySem.W PySem.Calls PyProof.Rows PySem.SeqAt
theorem eE:Slot "set_iterator" "__next__" "set_iterator.__next__":=
 .of (owner:="set_iterator") (n:="__next__") (by rw [typeLookup_type,builtinLookup_eq_fast]; kernel_rfl) (by decide +kernel) (by decide +kernel) (by decide +kernel)
  (by first|exact .inl (by decide +kernel)|exact .inr (by decide +kernel)) (by rw [isSubtype_type]; kernel_rfl)
theorem rE:entryFor table "set_iterator.__next__" = some Builtin.«set_iterator.__next__»:=entryFor_of_tree (by kernel_rfl)
theorem sT:Manifest.owners.lookup (String.ofList ['r','o','t','a','r','e','t','i','_','t','e','s'].reverse)=some Manifest.sig_set_iterator:=by kernel_rfl
theorem sF (a:Value):argsOk "set_iterator.__next__" ⟨[a],[]⟩:=by
 unfold argsOk; rw [signature?_of (id:="set_iterator.__next__") (n:=['_','_','t','x','e','n','_','_']) (o:=['r','o','t','a','r','e','t','i','_','t','e','s']) (by kernel_rfl) sT]; kernel_rfl
theorem rT:entryFor table "set.__iter__" = some Builtin.«frozenset.__iter__»:=
 entryFor_alias (id':="frozenset.__iter__") (by kernel_rfl) rfl (by decide +kernel) (by kernel_rfl)
theorem lM:Slot "set_iterator" "__iter__" "set_iterator.__iter__":=
 .of (owner:="set_iterator") (n:="__iter__") (by rw [typeLookup_type,builtinLookup_eq_fast]; kernel_rfl) (by decide +kernel) (by decide +kernel) (by decide +kernel)
  (by first|exact .inl (by decide +kernel)|exact .inr (by decide +kernel)) (by rw [isSubtype_type]; kernel_rfl)
theorem pZ:entryFor table "set_iterator.__iter__" = some Builtin.«dict_keyiterator.__iter__»:=
 entryFor_alias (id':="dict_keyiterator.__iter__") (by kernel_rfl) rfl (by decide +kernel) (by kernel_rfl)
theorem sN (a:Value):argsOk "set_iterator.__iter__" ⟨[a],[]⟩:=by
 unfold argsOk; rw [signature?_of (id:="set_iterator.__iter__") (n:=['_','_','r','e','t','i','_','_']) (o:=['r','o','t','a','r','e','t','i','_','t','e','s']) (by kernel_rfl) sT]; kernel_rfl
end
section
open PySem PySem.W PyProof.Rows
section
noncomputable def HK {α:Type u} {i:Nonempty α} (P:α->Prop):α:=@Classical.epsilon α i fun x=>¬P x
theorem hK {α:Type u} [i:Nonempty α] {P:α->Prop} (h:P (@HK α i P)):∀x,P x:=fun x=>Classical.byContradiction fun n => @Classical.epsilon_spec α (fun x=>¬P x) ⟨x,n⟩ h
noncomputable def HK2 {α β:Type _} {i:Nonempty (α×β)} (P:α->β->Prop):α×β:=@HK _ i fun z=>P z.1 z.2
theorem hK2 {α β:Type _} [i:Nonempty (α×β)] {P:α->β->Prop} (h:P (HK2 (i:=i) P).1 (HK2 (i:=i) P).2):∀x y,P x y:=fun x y=>hK (i:=i) (P:=fun z=>P z.1 z.2) h (x,y)
noncomputable def HK3 {α β γ:Type _} {i:Nonempty (α×β×γ)} (P:α->β->γ->Prop):α×β×γ:=@HK _ i fun z=>P z.1 z.2.1 z.2.2
theorem hK3 {α β γ:Type _} [i:Nonempty (α×β×γ)] {P:α->β->γ->Prop} (h:P (HK3 (i:=i) P).1 (HK3 (i:=i) P).2.1 (HK3 (i:=i) P).2.2):∀x y z,P x y z:=fun x y z=>hK (i:=i) (P:=fun z=>P z.1 z.2.1 z.2.2) h (x,y,z)
noncomputable def HK4 {α β γ δ:Type _} {i:Nonempty (α×β×γ×δ)} (P:α->β->γ->δ->Prop):α×β×γ×δ:=@HK _ i fun z=>P z.1 z.2.1 z.2.2.1 z.2.2.2
theorem hK4 {α β γ δ:Type _} [i:Nonempty (α×β×γ×δ)] {P:α->β->γ->δ->Prop} (h:P (HK4 (i:=i) P).1 (HK4 (i:=i) P).2.1 (HK4 (i:=i) P).2.2.1 (HK4 (i:=i) P).2.2.2):∀x y z u,P x y z u:=fun x y z u=>hK (i:=i) (P:=fun z=>P z.1 z.2.1 z.2.2.1 z.2.2.2) h (x,y,z,u)
noncomputable def HK5 {α β γ δ ε:Type _} {i:Nonempty (α×β×γ×δ×ε)} (P:α->β->γ->δ->ε->Prop):α×β×γ×δ×ε:=@HK _ i fun z=>P z.1 z.2.1 z.2.2.1 z.2.2.2.1 z.2.2.2.2
theorem hK5 {α β γ δ ε:Type _} [i:Nonempty (α×β×γ×δ×ε)] {P:α->β->γ->δ->ε->Prop} (h:P (HK5 (i:=i) P).1 (HK5 (i:=i) P).2.1 (HK5 (i:=i) P).2.2.1 (HK5 (i:=i) P).2.2.2.1 (HK5 (i:=i) P).2.2.2.2):∀x y z u v,P x y z u v:=fun x y z u v=>hK (i:=i) (P:=fun z=>P z.1 z.2.1 z.2.2.1 z.2.2.2.1 z.2.2.2.2) h (x,y,z,u,v)
noncomputable def HK6 {α β γ δ ε ζ:Type _} {i:Nonempty (α×β×γ×δ×ε×ζ)} (P:α->β->γ->δ->ε->ζ->Prop):α×β×γ×δ×ε×ζ:=@HK _ i fun z=>P z.1 z.2.1 z.2.2.1 z.2.2.2.1 z.2.2.2.2.1 z.2.2.2.2.2
theorem hK6 {α β γ δ ε ζ:Type _} [i:Nonempty (α×β×γ×δ×ε×ζ)] {P:α->β->γ->δ->ε->ζ->Prop} (h:P (HK6 (i:=i) P).1 (HK6 (i:=i) P).2.1 (HK6 (i:=i) P).2.2.1 (HK6 (i:=i) P).2.2.2.1 (HK6 (i:=i) P).2.2.2.2.1 (HK6 (i:=i) P).2.2.2.2.2):∀x y z u v w,P x y z u v w:=fun x y z u v w=>hK (i:=i) (P:=fun z=>P z.1 z.2.1 z.2.2.1 z.2.2.2.1 z.2.2.2.2.1 z.2.2.2.2.2) h (x,y,z,u,v,w)
noncomputable def HK7 {α β γ δ ε ζ η:Type _} {i:Nonempty (α×β×γ×δ×ε×ζ×η)} (P:α->β->γ->δ->ε->ζ->η->Prop):α×β×γ×δ×ε×ζ×η:=@HK _ i fun z=>P z.1 z.2.1 z.2.2.1 z.2.2.2.1 z.2.2.2.2.1 z.2.2.2.2.2.1 z.2.2.2.2.2.2
theorem hK7 {α β γ δ ε ζ η:Type _} [i:Nonempty (α×β×γ×δ×ε×ζ×η)] {P:α->β->γ->δ->ε->ζ->η->Prop} (h:P (HK7 (i:=i) P).1 (HK7 (i:=i) P).2.1 (HK7 (i:=i) P).2.2.1 (HK7 (i:=i) P).2.2.2.1 (HK7 (i:=i) P).2.2.2.2.1 (HK7 (i:=i) P).2.2.2.2.2.1 (HK7 (i:=i) P).2.2.2.2.2.2):∀x y z u v w a,P x y z u v w a:=fun x y z u v w a=>hK (i:=i) (P:=fun z=>P z.1 z.2.1 z.2.2.1 z.2.2.2.1 z.2.2.2.2.1 z.2.2.2.2.2.1 z.2.2.2.2.2.2) h (x,y,z,u,v,w,a)
noncomputable def HK8 {α β γ δ ε ζ η θ:Type _} {i:Nonempty (α×β×γ×δ×ε×ζ×η×θ)} (P:α->β->γ->δ->ε->ζ->η->θ->Prop):α×β×γ×δ×ε×ζ×η×θ:=@HK _ i fun z=>P z.1 z.2.1 z.2.2.1 z.2.2.2.1 z.2.2.2.2.1 z.2.2.2.2.2.1 z.2.2.2.2.2.2.1 z.2.2.2.2.2.2.2
theorem hK8 {α β γ δ ε ζ η θ:Type _} [i:Nonempty (α×β×γ×δ×ε×ζ×η×θ)] {P:α->β->γ->δ->ε->ζ->η->θ->Prop} (h:P (HK8 (i:=i) P).1 (HK8 (i:=i) P).2.1 (HK8 (i:=i) P).2.2.1 (HK8 (i:=i) P).2.2.2.1 (HK8 (i:=i) P).2.2.2.2.1 (HK8 (i:=i) P).2.2.2.2.2.1 (HK8 (i:=i) P).2.2.2.2.2.2.1 (HK8 (i:=i) P).2.2.2.2.2.2.2):∀x y z u v w a b,P x y z u v w a b:=fun x y z u v w a b=>hK (i:=i) (P:=fun z=>P z.1 z.2.1 z.2.2.1 z.2.2.2.1 z.2.2.2.2.1 z.2.2.2.2.2.1 z.2.2.2.2.2.2.1 z.2.2.2.2.2.2.2) h (x,y,z,u,v,w,a,b)
noncomputable def HK9 {α β γ δ ε ζ η θ ι:Type _} {i:Nonempty (α×β×γ×δ×ε×ζ×η×θ×ι)} (P:α->β->γ->δ->ε->ζ->η->θ->ι->Prop):α×β×γ×δ×ε×ζ×η×θ×ι:=@HK _ i fun z=>P z.1 z.2.1 z.2.2.1 z.2.2.2.1 z.2.2.2.2.1 z.2.2.2.2.2.1 z.2.2.2.2.2.2.1 z.2.2.2.2.2.2.2.1 z.2.2.2.2.2.2.2.2
theorem hK9 {α β γ δ ε ζ η θ ι:Type _} [i:Nonempty (α×β×γ×δ×ε×ζ×η×θ×ι)] {P:α->β->γ->δ->ε->ζ->η->θ->ι->Prop} (h:P (HK9 (i:=i) P).1 (HK9 (i:=i) P).2.1 (HK9 (i:=i) P).2.2.1 (HK9 (i:=i) P).2.2.2.1 (HK9 (i:=i) P).2.2.2.2.1 (HK9 (i:=i) P).2.2.2.2.2.1 (HK9 (i:=i) P).2.2.2.2.2.2.1 (HK9 (i:=i) P).2.2.2.2.2.2.2.1 (HK9 (i:=i) P).2.2.2.2.2.2.2.2):∀x y z u v w a b c,P x y z u v w a b c:=fun x y z u v w a b c=>hK (i:=i) (P:=fun z=>P z.1 z.2.1 z.2.2.1 z.2.2.2.1 z.2.2.2.2.1 z.2.2.2.2.2.1 z.2.2.2.2.2.2.1 z.2.2.2.2.2.2.2.1 z.2.2.2.2.2.2.2.2) h (x,y,z,u,v,w,a,b,c)
noncomputable def HK10 {α β γ δ ε ζ η θ ι κ:Type _} {i:Nonempty (α×β×γ×δ×ε×ζ×η×θ×ι×κ)} (P:α->β->γ->δ->ε->ζ->η->θ->ι->κ->Prop):α×β×γ×δ×ε×ζ×η×θ×ι×κ:=@HK _ i fun z=>P z.1 z.2.1 z.2.2.1 z.2.2.2.1 z.2.2.2.2.1 z.2.2.2.2.2.1 z.2.2.2.2.2.2.1 z.2.2.2.2.2.2.2.1 z.2.2.2.2.2.2.2.2.1 z.2.2.2.2.2.2.2.2.2
theorem hK10 {α β γ δ ε ζ η θ ι κ:Type _} [i:Nonempty (α×β×γ×δ×ε×ζ×η×θ×ι×κ)] {P:α->β->γ->δ->ε->ζ->η->θ->ι->κ->Prop} (h:P (HK10 (i:=i) P).1 (HK10 (i:=i) P).2.1 (HK10 (i:=i) P).2.2.1 (HK10 (i:=i) P).2.2.2.1 (HK10 (i:=i) P).2.2.2.2.1 (HK10 (i:=i) P).2.2.2.2.2.1 (HK10 (i:=i) P).2.2.2.2.2.2.1 (HK10 (i:=i) P).2.2.2.2.2.2.2.1 (HK10 (i:=i) P).2.2.2.2.2.2.2.2.1 (HK10 (i:=i) P).2.2.2.2.2.2.2.2.2):∀x y z u v w a b c d,P x y z u v w a b c d:=fun x y z u v w a b c d=>hK (i:=i) (P:=fun z=>P z.1 z.2.1 z.2.2.1 z.2.2.2.1 z.2.2.2.2.1 z.2.2.2.2.2.1 z.2.2.2.2.2.2.1 z.2.2.2.2.2.2.2.1 z.2.2.2.2.2.2.2.2.1 z.2.2.2.2.2.2.2.2.2) h (x,y,z,u,v,w,a,b,c,d)
instance:Nonempty Shared:=⟨{}⟩
instance:Nonempty Around:=⟨{}⟩
instance:Nonempty Dat:=⟨.none⟩
instance:Nonempty World:=⟨⟨fun _ _=>0,{strHash:=fun _=>0,shareClass:=id,mergeTok:=id,idOf:=fun _=>0,idOfShared:=fun _ _=>0,followText:=fun _=>true,idOfImm:=fun _=>0}⟩⟩
instance:Nonempty Sre.M:=⟨{code:=#[],text:=#[],lim:=0,start:=0,pc:=0,pos:=0,handed:=0,marks:=#[]}⟩
instance:Nonempty Drawn:=⟨{}⟩
instance:Nonempty Model:=⟨model default Classical.ofNonempty⟩
noncomputable abbrev Gh:=List (Addr×Obj)
structure Wd where
 prog:Program
 w:World
 top:Heap
 tb:List Addr
 os:OsState
 mg:Str->Option Value
 mb:Str->Option Value
instance:Nonempty Wd:=⟨⟨default,Classical.ofNonempty,default,[],default,fun _=>none,fun _=>none⟩⟩
structure WOk (W:Wd):Prop where
 tab:∀b∈W.tb,∃c₀ ps,W.top.TableAt c₀ b ps
 mg:W.top.Ns mainGlobals W.mg
 mb:W.top.Ns builtinsNs W.mb
 lim:W.top.NoLimit
variable (W:Wd)
noncomputable def pE (g:Gh) (h:Heap):Prop:=∀p∈g,h.get? p.1=some p.2/\p.1∉W.tb
noncomputable def n2 (h:Heap):Prop:=∀b∈W.tb,∀c ps0,W.top.IsCode c b ps0->W.top.TableAt c b ps0->∃ps,h.IsCode c b ps/\h.TableAt c b ps
structure Ext (s:Shared) (g:Gh) (s':Shared) (g':Gh):Prop where
 keep:∀b o,s.heap.get? b=some o->b∉W.tb->s'.heap.get? b=some o
 old:OldK W.top s.heap->OldK W.top s'.heap
 sub:∀p∈g,p∈g'
 ok:pE W g' s'.heap
 new:∀p∈g',p∈g\/s.heap.get? p.1=none
 os:s'.os=s.os
 bare:AllBare s.gens->AllBare s'.gens
 tabs:n2 W s.heap->n2 W s'.heap
structure Base (s:Shared) (g:Gh):Prop where
 wok:WOk W
 gok:pE W g s.heap
 topk:∀b o,W.top.get? b=some o->b∉W.tb->s.heap.get? b=some o
 old:OldK W.top s.heap
 bare:AllBare s.gens
 os:s.os=W.os
 tabs:n2 W s.heap
variable {W}
theorem n2.keeps {h h':Heap} (t:n2 W h) (hk:∀b o,h.get? b=some o->h'.get? b=some o):n2 W h':=fun b hb c ps0 h1 h2 =>
 let ⟨ps,q1,q2⟩:=t b hb c ps0 h1 h2; ⟨ps,q1.keeps hk,q2.keeps hk⟩
theorem Ext.refl {s:Shared} {g:Gh} (h:pE W g s.heap):Ext W s g s g:=
 ⟨fun _ _ e _=>e,id,fun _ h=>h,h,fun _ h=>.inl h,rfl,id,id⟩
theorem Ext.trans {s s' s'':Shared} {g g' g'':Gh} (x:Ext W s g s' g') (y:Ext W s' g' s'' g''):Ext W s g s'' g'' where
 keep:=fun b o e hb=>y.keep b o (x.keep b o e hb) hb
 old:=fun h=>y.old (x.old h)
 sub:=fun p hp=>y.sub p (x.sub p hp)
 ok:=y.ok
 new:=fun p hp=>(y.new p hp).elim (fun h=>x.new p h) fun h=>.inr (by
  cases e:s.heap.get? p.1 with
  | none=>rfl
  | some o=>rw [x.keep _ _ e (y.ok p hp).2] at h; exact nomatch h)
 os:=y.os.trans x.os
 bare:=fun h=>y.bare (x.bare h)
 tabs:=fun h=>y.tabs (x.tabs h)
theorem Base.step {s s':Shared} {g g':Gh} (B:Base W s g) (x:Ext W s g s' g'):Base W s' g':=
 ⟨B.wok,x.ok,fun b o e hb=>x.keep b o (B.topk b o e hb) hb,x.old B.old,x.bare B.bare,x.os.trans B.os,x.tabs B.tabs⟩
theorem WOk.tb_some (wok:WOk W) {h:Heap} (K:OldK W.top h) {b:Addr} (hb:b∈W.tb):∃o,h.get? b=some o:=by
 obtain ⟨c,ps,ht⟩:=wok.tab b hb
 exact K.there _ _ ht.2
theorem WOk.not_tb (wok:WOk W) {h:Heap} (K:OldK W.top h) {b:Addr} (hb:h.get? b=none):b∉W.tb:=fun q=>by
 obtain ⟨o,e⟩:=wok.tb_some K q
 rw [e] at hb; exact nomatch hb
theorem WOk.tb_data (wok:WOk W) {h:Heap} (K:OldK W.top h) {b:Addr} {o:Obj} (hb:b∈W.tb) (e:h.get? b=some o):(∃vs,o.data=.fields vs)\/b=cStatics:=by
 revert wok K hb e;revert W h b o;refine no_implicit_lambda%(hK4 ?_);generalize (HK4 _).1=W,(HK4 _).2.1=h,(HK4 _).2.2.1=b,(HK4 _).2.2.2=o;intro wok K hb e
 obtain ⟨c₀,ps,ht⟩:=wok.tab b hb
 rcases K.old _ _ ht.2 with x|⟨_,_,vs,more,_,x⟩|⟨x,_⟩
 ·rw [e] at x; cases x; exact .inl ⟨_,rfl⟩
 ·rw [e] at x; cases x; exact .inl ⟨_,rfl⟩
 ·exact .inr x
theorem WOk.statics_tb (wok:WOk W):cStatics∉W.tb:=fun hb=>by
 obtain ⟨c₀,ps,ht⟩:=wok.tab _ hb
 obtain ⟨mc,⟨o,es,n,e,hd,_⟩,_⟩:=wok.lim
 rw [ht.2] at e
 cases e
 cases hd
theorem WOk.data_tb (wok:WOk W) {h:Heap} (K:OldK W.top h) {b:Addr} {o:Obj} (e:h.get? b=some o) (hd:∀vs,o.data≠.fields vs):b∉W.tb:=fun hb=>by
 rcases wok.tb_data K hb e with ⟨vs,h⟩|rfl
 ·exact hd _ h
 ·exact wok.statics_tb hb
theorem WOk.ns_tb (wok:WOk W) {h:Heap} (K:OldK W.top h) {b:Addr} {m:Str->Option Value} (hn:h.Ns b m):b∉W.tb:=by
 obtain ⟨o,es,n,hq⟩:=hn; have e:=hq.1; have hd:=hq.2.1
 exact wok.data_tb K e (by rw [hd]; intro _ h; cases h)
theorem WOk.cell_tb (wok:WOk W) {h:Heap} (K:OldK W.top h) {c:Addr} {v:Option Value} (hc:h.IsCell c v):c∉W.tb:=by
 obtain ⟨o,e,hd⟩:=hc
 exact wok.data_tb K e (by rw [hd]; intro _ h; cases h)
theorem CD {hE h h':Heap} (K:OldK hE h) {a:Addr} (ha:hE.get? a=none) (hs:Heap.ExtBut a h h'):OldK hE h':=by
 have ne:∀b o,hE.get? b=some o->b≠a:=fun b o e z=>by rw [z,ha] at e; exact nomatch e
 refine ⟨fun b o e=>?_,fun b o e=>let ⟨o',ho'⟩:=K.there b o e; ⟨o',hs b _ (ne b o e) ho'⟩⟩
 rcases K.old b o e with x|⟨t,hc,vs,more,hv,x⟩|⟨rfl,hc,⟨o',es,n,ho',r⟩,z⟩
 ·exact .inl (hs b _ (ne b o e) x)
 ·exact .inr (.inl ⟨t,hc,vs,more,hv,hs b _ (ne b o e) x⟩)
 ·exact .inr (.inr ⟨rfl,hc,⟨o',es,n,hs _ _ (ne _ o e) ho',r⟩,fun key=>by rw [OldK.staticOf_congr ((hs _ _ (ne _ o e) ho').trans ho'.symm) key]; exact z key⟩)
theorem Ext.of_keeps {s:Shared} {g:Gh} {h':Heap} {tk:Tok} (hg:pE W g s.heap) (hk:∀b o,s.heap.get? b=some o->h'.get? b=some o) :
  Ext W s g { s with heap:=h',toks:=tk } g:=
 ⟨fun b o e _=>hk b o e,fun h=>h.step_keeps hk,fun _ h=>h,fun p hp=>⟨hk _ _ (hg p hp).1,(hg p hp).2⟩,fun _ h=>.inl h,rfl,id,fun t=>t.keeps hk⟩
theorem Ext.toks {s:Shared} {g:Gh} {tk:Tok} (hg:pE W g s.heap):Ext W s g { s with toks:=tk } g:=
 Ext.of_keeps (h':=s.heap) hg (fun _ _ e=>e)
theorem Ext.of_new {s:Shared} {g:Gh} {h':Heap} {tk:Tok} (more:Gh) (B:Base W s g) (hk:∀b o,s.heap.get? b=some o->h'.get? b=some o)
  (hm:∀p∈more,h'.get? p.1=some p.2/\s.heap.get? p.1=none):Ext W s g { s with heap:=h',toks:=tk } (more++g):=
 ⟨fun b o e _=>hk b o e,fun h=>h.step_keeps hk,fun _ h=>List.mem_append.mpr (.inr h),
  fun p hp=>(List.mem_append.mp hp).elim (fun h=>⟨(hm p h).1,B.wok.not_tb B.old (hm p h).2⟩) fun h=>⟨hk _ _ (B.gok p h).1,(B.gok p h).2⟩,
  fun p hp=>(List.mem_append.mp hp).elim (fun h=>.inr (hm p h).2) .inl,rfl,id,fun t=>t.keeps hk⟩
inductive Where (env:Env) (h0:Heap) (x:Str):Prop
 | loc:env.kindOf x=some .local->Where env h0 x
 | own (c:Addr):env.kindOf x=some .cell->env.cells.lookup x=some c->h0.get? c=none->Where env h0 x
noncomputable def eT (env:Env) (h:Heap) (x:Str) (v:Value):Prop:=
 (env.kindOf x=some .local/\∃m,h.Ns env.locals m/\m x=some v) \/
 ((env.kindOf x=some .cell\/env.kindOf x=some .free/\(x==("__classdict__":Str))=false)/\∃c,env.cells.lookup x=some c/\h.IsCell c (some v))
noncomputable abbrev Kd:=Option (Value×Addr×Obj)
noncomputable def cV (k:Kd) (vs:Array Value) (n:Nat):Obj:=match k with
 | none=>listOf vs n
 | some (c,d,_)=>{ cls:=c,dict:=some d,data:=.seq vs n }
theorem a6 (k:Kd) (vs:Array Value) (n:Nat):(cV k vs n).data=.seq vs n:=by
 cases k<;>rfl
noncomputable def sP (o:Obj):Bool:=match o.cls with
 | .type T=>T != "list_iterator" && T != "tuple_iterator" && T != "range_iterator"
 | _=>true
inductive Bd where
 | val (d:Dat)
 | raw (v:Value) (os:Gh)
 | ownK (a:Addr) (k:Kd) (ds:List Dat)
noncomputable abbrev Bd.own (a:Addr) (ds:List Dat):Bd:=.ownK a none ds
noncomputable abbrev aW:=List (Str×Option Bd)
structure Cx where
 env:Env
 s0:Shared
 g0:Gh
 far:List (Str×Dat)
instance:Nonempty Cx:=⟨⟨default,Classical.ofNonempty,[],[]⟩⟩
instance:Nonempty Bd:=⟨.val .none⟩
noncomputable def NN (C:Cx) (h:Heap) (g:Gh) (x:Str) (d:Dat):Prop:=
 (C.env.kindOf x=some .cell\/C.env.kindOf x=some .free/\(x==("__classdict__":Str))=false)/\∃c v,C.env.cells.lookup x=some c/\(∃o,C.s0.heap.get? c=some o)/\h.IsCell c (some v)/\DatIn g v d
noncomputable def GE (C:Cx) (h:Heap) (g:Gh) (x:Str):Bd->Prop
 | .val d=>∃v,eT C.env h x v/\DatIn g v d
 | .raw v os=>eT C.env h x v/\∀p∈os,p∈g/\sP p.2=true
 | .ownK a k ds=>eT C.env h x (.ref a)/\(∃vs n,h.get? a=some (cV k vs.toArray n)/\DatAll g vs ds)/\(∀p∈g,p.1≠a)/\C.s0.heap.get? a=none/\∀c d o,k=some (c,d,o)->(d,o)∈g/\sP o=true
structure St (W:Wd) (C:Cx) (ρ:aW) (s:Shared) (g:Gh):Prop where
 base:Base W s g
 base0:Base W C.s0 C.g0
 ext:Ext W C.s0 C.g0 s g
 kind:C.env.scope.kind=.function
 globals:C.env.globals=mainGlobals
 builtins:C.env.builtins=builtinsNs
 low:C.s0.heap.get? C.env.locals=none
 ns:∃m,s.heap.Ns C.env.locals m
 lg:∀p∈g,p.1≠C.env.locals
 ex:∀p∈ρ,Where C.env C.s0.heap p.1
 cells:∀x c,C.env.kindOf x=some .cell->C.env.cells.lookup x=some c->C.s0.heap.get? c=none->(∃v,s.heap.IsCell c v)/\∀p∈g,p.1≠c
 apart:∀x y c,C.env.cells.lookup x=some c->C.env.cells.lookup y=some c->x=y
 nodup:(ρ.map (·.1)).Nodup
 vars:∀x b,(x,some b)∈ρ->GE C s.heap g x b
 owns:∀x y a k j ds es,(x,some (Bd.ownK a k ds))∈ρ->(y,some (Bd.ownK a j es))∈ρ->x=y
 fars:∀p∈C.far,NN C s.heap g p.1 p.2
theorem St.gok {C:Cx} {ρ:aW} {s:Shared} {g:Gh} (S:St W C ρ s g):pE W g s.heap:=S.base.gok
theorem Ns.ext {s s':Shared} {g g':Gh} (B:Base W s g) (x:Ext W s g s' g') {a:Addr} {m:Str->Option Value} (hn:s.heap.Ns a m):s'.heap.Ns a m:=
 hn.at' fun o e=>x.keep a o e (B.wok.ns_tb B.old hn)
theorem IsCell.ext {s s':Shared} {g g':Gh} (B:Base W s g) (x:Ext W s g s' g') {c:Addr} {v:Option Value} (hc:s.heap.IsCell c v):s'.heap.IsCell c v:=by
 have ht:=B.wok.cell_tb B.old hc
 obtain ⟨o,ho,hd⟩:=hc
 exact ⟨o,x.keep c o ho ht,hd⟩
theorem eT.ext {env:Env} {s s':Shared} {g g':Gh} (B:Base W s g) (x:Ext W s g s' g') {n:Str} {v:Value} (h:eT env s.heap n v):eT env s'.heap n v:=by
 rcases h with ⟨h1,m,hn,hm⟩|⟨h1,c,hc,hv⟩
 ·exact .inl ⟨h1,m,Ns.ext B x hn,hm⟩
 ·exact .inr ⟨h1,c,hc,IsCell.ext B x hv⟩
theorem u0 {s:Shared} {b:Addr} {o:Obj} (e:s.heap.get? b=some o) {a:Addr} (h:s.heap.get? a=none):a≠b:=fun q=>by rw [q,e] at h; exact nomatch h
theorem St.step {C:Cx} {ρ:aW} {s:Shared} {g:Gh} (S:St W C ρ s g) {s':Shared} {g':Gh} (x:Ext W s g s' g'):St W C ρ s' g' where
 base:=S.base.step x
 base0:=S.base0
 ext:=S.ext.trans x
 kind:=S.kind
 globals:=S.globals
 builtins:=S.builtins
 low:=S.low
 ns:=let ⟨m,hn⟩:=S.ns; ⟨m,Ns.ext S.base x hn⟩
 lg:=fun p hp=>(x.new p hp).elim (fun h=>S.lg p h) fun h=>by
  obtain ⟨m,o,_,_,ho,_⟩:=S.ns
  exact u0 ho h
 ex:=S.ex
 cells:=fun y c hk hc hl=>by
  obtain ⟨⟨v,hv⟩,hg⟩:=S.cells y c hk hc hl
  refine ⟨⟨v,IsCell.ext S.base x hv⟩,fun p hp=>(x.new p hp).elim (fun h=>hg p h) fun h=>?_⟩
  obtain ⟨o,hq⟩:=hv; have ho:=hq.1
  exact u0 ho h
 apart:=S.apart
 nodup:=S.nodup
 vars:=fun y b hb=>by
  have q:=S.vars y b hb
  cases b with
  | val d =>
   obtain ⟨v,hq⟩:=q; have hv:=hq.1; have hd:=hq.2
   exact ⟨v,eT.ext S.base x hv,hd.mono x.sub⟩
  | raw v os=>exact ⟨eT.ext S.base x q.1,fun p hp=>⟨x.sub p (q.2 p hp).1,(q.2 p hp).2⟩⟩
  | ownK a k ds =>
   obtain ⟨hv,⟨vs,n,ha,hd⟩,hg,hl,hk⟩:=q
   exact ⟨eT.ext S.base x hv,⟨vs,n,x.keep _ _ ha (S.base.wok.data_tb S.base.old ha (by rw [a6]; intro _ h; cases h)),hd.mono x.sub⟩,fun p hp=>(x.new p hp).elim (fun h=>hg p h) fun h=>u0 ha h,hl,fun c d o e=>⟨x.sub _ (hk c d o e).1,(hk c d o e).2⟩⟩
 owns:=S.owns
 fars:=fun p hp=>by
  obtain ⟨h1,c,v,hq⟩:=S.fars p hp; have hc:=hq.1; have ho:=hq.2.1; have hv:=hq.2.2.1; have hd:=hq.2.2.2
  exact ⟨h1,c,v,hc,ho,IsCell.ext S.base x hv,hd.mono x.sub⟩
inductive Has:aW->Str->Bd->Prop
 | head {x b ρ}:Has ((x,some b)::ρ) x b
 | tail {p ρ x b}:Has ρ x b->Has (p::ρ) x b
theorem Has.mem {ρ:aW} {x:Str} {b:Bd} (h:Has ρ x b):(x,some b)∈ρ:=by
 induction h with
 | head=>exact List.mem_cons_self
 | tail _ ih=>exact List.mem_cons_of_mem _ ih
inductive Put (x:Str) (b:Option Bd):aW->aW->Prop
 | head {o ρ}:Put x b ((x,o)::ρ) ((x,b)::ρ)
 | tail {p ρ ρ'}:Put x b ρ ρ'->Put x b (p::ρ) (p::ρ')
theorem Put.names {x:Str} {b:Option Bd} {ρ ρ':aW} (h:Put x b ρ ρ'):ρ'.map (·.1)=ρ.map (·.1):=by
 induction h with
 | head=>rfl
 | tail _ ih=>rw [List.map_cons,List.map_cons,ih]
theorem Put.at {x:Str} {b:Option Bd} {ρ ρ':aW} (h:Put x b ρ ρ'):∃o,(x,o)∈ρ:=by
 induction h with
 | @head o ρ=>exact ⟨o,List.mem_cons_self⟩
 | tail _ ih=>obtain ⟨o,h⟩:=ih; exact ⟨o,List.mem_cons_of_mem _ h⟩
theorem Put.mem {x:Str} {b:Option Bd} {ρ ρ':aW} (h:Put x b ρ ρ') (hn:(ρ.map (·.1)).Nodup) {y:Str} {o:Option Bd} (hm:(y,o)∈ρ'):(y=x/\o=b)\/(y≠x/\(y,o)∈ρ):=by
 induction h with
 | @head o' ρ =>
  rw [List.map_cons,List.nodup_cons] at hn
  rcases List.mem_cons.mp hm with e|hm
  ·cases e; exact .inl ⟨rfl,rfl⟩
  ·refine .inr ⟨fun e=>hn.1 (List.mem_map.mpr ⟨_,hm,e⟩),List.mem_cons_of_mem _ hm⟩
 | @tail p ρ ρ' hp ih =>
  rw [List.map_cons,List.nodup_cons] at hn
  rcases List.mem_cons.mp hm with e|hm
  ·subst e
   refine .inr ⟨fun e=>?_,List.mem_cons_self⟩
   subst e
   obtain ⟨o',h'⟩:=hp.at
   exact hn.1 (List.mem_map.mpr ⟨_,h',rfl⟩)
  ·rcases ih hn.2 hm with h|⟨h1,h2⟩
   ·exact .inl h
   ·exact .inr ⟨h1,List.mem_cons_of_mem _ h2⟩
theorem Put.where_ {env:Env} {h0:Heap} {x:Str} {b:Option Bd} {ρ ρ':aW} (h:Put x b ρ ρ') (hw:∀p∈ρ,Where env h0 p.1):∀p∈ρ',Where env h0 p.1:=fun p hp=>by
 have:p.1∈ρ'.map (·.1):=List.mem_map.mpr ⟨p,hp,rfl⟩
 rw [h.names] at this
 obtain ⟨q,hq,e⟩:=List.mem_map.mp this
 rw [←e]; exact hw q hq
theorem aB (k:Nat) {ρ:aW} {x:Str} {b:Bd} (h:ρ[k]? = some (x,some b)):Has ρ x b:=by
 induction ρ generalizing k with
 | nil=>nomatch h
 | cons p ρ ih =>
  match k with
  | 0=>rw [Option.some.inj h]; exact .head
  | k+1=>exact .tail (ih k h)
theorem aF (k:Nat) {ρ ρ':aW} {x:Str} {b o:Option Bd} (h:ρ[k]? = some (x,o)) (e:ρ'=ρ.set k (x,b)):Put x b ρ ρ':=by
 induction ρ generalizing k ρ' with
 | nil=>nomatch h
 | cons p ρ ih =>
  rw [e]
  match k with
  | 0=>rw [Option.some.inj h]; exact .head
  | k+1=>exact .tail (ih k h rfl)
theorem go3 {W:Wd} {α:Type} {M:Model} {A:Around} {x:Sem α} {E:Value->Shared->Prop} {s:Shared} {g:Gh} {P:Gh->α->Shared->Prop} {Q:α->Shared->Prop} (h:wpAny M A x (fun v s'=>∃g',Ext W s g s' g'/\P g' v s') E s) (k:∀v s' g',Ext W s g s' g'->P g' v s'->Q v s'):wpAny M A x Q E s:=
 wpAny_mono h (fun v s' q=>q.elim fun g' z=>k v s' g' z.1 z.2) fun _ _ e=>e
theorem PU {n i d:Nat} (h:n-i=d+1):n-(i+1)=d:=congrArg Nat.pred h
theorem RA {l i:Nat} (h:i<l):l+1-(i+1)<l+1-i:=by
 rw [Nat.add_sub_add_right,Nat.succ_sub (Nat.le_of_lt h)]
 exact Nat.lt_succ_self _
theorem RE (l:Nat):(-1+(l:Int)).toNat=l-1:=by
 rw [Int.add_comm]
 exact Int.toNat_sub l 1
theorem ar7 {a b k n:Nat} (h:a+b+k+1=n):k+1=n-b-a:=by
 rw [←h,Nat.sub_sub,Nat.add_assoc (a+b),Nat.add_comm a b,Nat.add_sub_cancel_left]
theorem Q9 {a b n:Nat} (h:a+b<n):n-b-a=n-b-a-1+1:=
 (Nat.sub_add_cancel (show 1<=n-b-a from Nat.sub_sub n b a▸Nat.sub_pos_of_lt (Nat.add_comm a b▸h))).symm
theorem ar9 {a b n:Nat} (h:a+b<n):a+b+(n-b-a-1)+1=n:=by
 rw [Nat.add_assoc,←Q9 h,Nat.sub_sub,Nat.add_comm b a]
 exact Nat.add_sub_cancel' (Nat.le_of_lt h)
theorem OJ {a b n:Nat} (h:b+a<n):a<n-b:=Nat.lt_sub_of_add_lt (Nat.add_comm b a▸h)
end
section
variable {W:Wd}
section
variable {A:Around} {E:Value->Shared->Prop} {C:Cx} {ρ ρ':aW} {s:Shared} {g:Gh}
structure Room (n:Nat) (A:Around):Prop where
 handled:A.handled=none
 depth:A.depth+n<=900
 units:A.units+100*n<=9500
theorem Room.lt {n:Nat} (r:Room n A):A.depth<recursionLimit:=by
 have:=r.depth
 show A.depth<1000
 lia
theorem Room.cl {n:Nat} (r:Room (n+1) A):A.units+64<cLine:=by
 have:=r.units
 show A.units+64<9900
 lia
theorem Room.mono {n m:Nat} (r:Room n A) (h:m<=n):Room m A:=⟨r.handled,by have:=r.depth; lia,by have:=r.units; lia⟩
theorem Room.deeper {n:Nat} (r:Room (n+1) A) (env:Env):Room n (A.deeper env):=by
 refine ⟨r.handled,?_,?_⟩
 ·have:=r.depth
  show A.depth+1+n<=900
  lia
 ·have:=r.units
  show A.units+3+100*n<=9500
  lia
theorem bH {M:Model} {env:Env} {x:Str} {v:Value} {Q:Value->Shared->Prop} (hk:env.scope.kind=.function) (h:eT env s.heap x v) (hq:Q v s):wpAny M A (loadName env x) Q E s:=by
 rcases h with ⟨h1,m,hn,hm⟩|⟨h1,c,hc,hv⟩
 ·exact wpAny_loadName_local hk h1 hn hm hq
 ·rcases h1 with h1|⟨h1,h2⟩
  ·exact wpAny_loadName_cell hk h1 hc hv hq
  ·exact wpAny_loadName_free hk h1 hc hv hq h2
theorem St.where_ {x:Str} {o:Option Bd} (S:St W C ρ s g) (h:(x,o)∈ρ):Where C.env C.s0.heap x:=S.ex _ h
theorem Ext.same {a:Addr} {h':Heap} {tk:Tok} {s0:Shared} {g0:Gh} (B0:Base W s0 g0) (x:Ext W s0 g0 s g) (ha:s0.heap.get? a=none) (hg:∀p∈g,p.1≠a) (hs:Heap.ExtBut a s.heap h') :
  Ext W s0 g0 { s with heap:=h',toks:=tk } g where
 keep:=fun b o e hb=>hs b o (fun z=>by rw [z,ha] at e; cases e) (x.keep b o e hb)
 old:=fun _=>CD (x.old B0.old) (by
  cases e:W.top.get? a with
  | none=>rfl
  | some o =>
   obtain ⟨o',e'⟩:=B0.old.there _ _ e
   rw [ha] at e'; cases e') hs
 sub:=x.sub
 ok:=fun p hp=>⟨hs p.1 _ (hg p hp) (x.ok p hp).1,(x.ok p hp).2⟩
 new:=x.new
 os:=x.os
 bare:=x.bare
 tabs:=fun _ b hb c ps0 h1 h2=>by
  have ne:∀y o,W.top.get? y=some o->y≠a:=fun y o e z=>by
   obtain ⟨o',e'⟩:=B0.old.there _ _ e
   rw [z,ha] at e'; cases e'
  obtain ⟨ps,hq⟩:=x.tabs B0.tabs b hb c ps0 h1 h2; have q1:=hq.1; have q2:=hq.2
  obtain ⟨⟨oc,vs,ec,_⟩,eb⟩:=h2
  exact ⟨ps,q1.extBut hs (ne _ _ ec) (ne _ _ eb),q2.extBut hs (ne _ _ ec) (ne _ _ eb)⟩
theorem St.locals_ne_cell (S:St W C ρ s g) {c:Addr} {v:Option Value} (hc:s.heap.IsCell c v):c≠C.env.locals:=by
 obtain ⟨m,o,es,n,ho,hd,_⟩:=S.ns
 obtain ⟨o',ho',hd'⟩:=hc
 rintro rfl
 rw [ho] at ho'; cases ho'
 rw [hd] at hd'; cases hd'
theorem St.own_turn (S:St W C ρ s g) {a:Addr} {h':Heap} {tk:Tok} (ha:C.s0.heap.get? a=none) (hg:∀p∈g,p.1≠a) (hs:Heap.ExtBut a s.heap h')
  (hn:∃m,h'.Ns C.env.locals m) (hc:∀x c,C.env.kindOf x=some .cell->C.env.cells.lookup x=some c->C.s0.heap.get? c=none->∃v,h'.IsCell c v) (hnm:ρ'.map (·.1)=ρ.map (·.1))
  (hv:∀x b,(x,some b)∈ρ'->GE C h' g x b) (ho:∀x y a k j ds es,(x,some (Bd.ownK a k ds))∈ρ'->(y,some (Bd.ownK a j es))∈ρ'->x=y):St W C ρ' { s with heap:=h',toks:=tk } g:=by
 have x':=Ext.same (tk:=tk) S.base0 S.ext ha hg hs
 refine ⟨S.base0.step x',S.base0,x',S.kind,S.globals,S.builtins,S.low,hn,S.lg,fun p hp=>?_,fun x c h1 h2 h3=>⟨hc x c h1 h2 h3,(S.cells x c h1 h2 h3).2⟩,S.apart,by rw [hnm]; exact S.nodup,hv,ho,fun p hp=>?_⟩
 ·have:p.1∈ρ'.map (·.1):=List.mem_map.mpr ⟨p,hp,rfl⟩
  rw [hnm] at this
  obtain ⟨q,hq,e⟩:=List.mem_map.mp this
  rw [←e]; exact S.ex q hq
 ·obtain ⟨h1,c,v,hc,⟨o,ho⟩,hv,hd⟩:=S.fars p hp
  refine ⟨h1,c,v,hc,⟨o,ho⟩,?_,hd⟩
  obtain ⟨o',hq⟩:=hv; have e:=hq.1; have hd':=hq.2
  exact ⟨o',hs c _ (fun z=>by rw [z,ha] at ho; cases ho) e,hd'⟩
theorem lZ {env:Env} {a:Addr} {h h':Heap} {x:Str} {v:Value} (hs:Heap.ExtBut a h h') (hL:env.locals≠a) (hC:∀c u,env.cells.lookup x=some c->h.IsCell c u->c≠a) (H:eT env h x v):eT env h' x v:=by
 rcases H with ⟨h1,m,hn,hm⟩|⟨h1,c,hc,hv⟩
 ·exact .inl ⟨h1,m,hn.at' fun o e=>hs _ _ hL e,hm⟩
 ·have:=hC c _ hc hv
  obtain ⟨o,hq⟩:=hv; have e:=hq.1; have hd:=hq.2
  exact .inr ⟨h1,c,hc,o,hs c _ this e,hd⟩
theorem pD {a:Addr} {h':Heap} {x:Str} {b:Bd} (hs:Heap.ExtBut a s.heap h') (hh:∀v,eT C.env s.heap x v->eT C.env h' x v) (ha:∀k ds,b≠.ownK a k ds) (q:GE C s.heap g x b):GE C h' g x b:=by
 cases b with
 | val d=>obtain ⟨v,hv,hd⟩:=q; exact ⟨v,hh v hv,hd⟩
 | raw v os=>exact ⟨hh _ q.1,q.2⟩
 | ownK a' k ds =>
  obtain ⟨hv,⟨vs,n,e,hd⟩,hg,hl⟩:=q
  exact ⟨hh _ hv,⟨vs,n,hs a' _ (fun z=>ha k ds (by rw [z])) e,hd⟩,hg,hl⟩
noncomputable def jG (L:Addr) (s s':Shared):Prop:=∀b o,s.heap.get? b=some o->b≠L->(∀v,o.data≠.cell v)->s'.heap.get? b=some o
theorem jG.trans {L:Addr} {s s' s'':Shared} (x:jG L s s') (y:jG L s' s''):jG L s s'':=fun b o e h1 h2=>y b o (x b o e h1 h2) h1 h2
theorem St.storeV (S:St W C ρ s g) {x:Str} {v:Value} {b:Bd} (hp:Put x (some b) ρ ρ') (hb:∀h',eT C.env h' x v->(∀b o,s.heap.get? b=some o->(∃vs n,o.data=.seq vs n)->h'.get? b=some o)->GE C h' g x b)
  (ho:∀a k ds,b=.ownK a k ds->∀y j es,y≠x->(y,some (Bd.ownK a j es))∉ρ) {Q:Unit->Shared->Prop}
  (hQ:∀s',St W C ρ' s' g->jG C.env.locals s s'->Q () s') {M:Model}:wpAny M A (storeName C.env x v) Q E s:=by
 obtain ⟨o,hm⟩:=hp.at
 revert W A E C ρ ρ' s g x v b Q M o;refine no_implicit_lambda%(hK8 ?_);generalize (HK8 _).1=W,(HK8 _).2.1=A,(HK8 _).2.2.1=E,(HK8 _).2.2.2.1=C,(HK8 _).2.2.2.2.1=ρ,(HK8 _).2.2.2.2.2.1=ρ',(HK8 _).2.2.2.2.2.2.1=s,(HK8 _).2.2.2.2.2.2.2=g;intro S;refine no_implicit_lambda%(hK3 ?_);generalize (HK3 _).1=x,(HK3 _).2.1=v,(HK3 _).2.2=b;intro hp hb ho;refine no_implicit_lambda%(hK ?_);generalize HK _=Q;intro hQ;refine no_implicit_lambda%(hK2 ?_);generalize (HK2 _).1=M,(HK2 _).2=o;intro hm
 have hown:∀x y a k j ds es,(x,some (Bd.ownK a k ds))∈ρ'->(y,some (Bd.ownK a j es))∈ρ'->x=y:=by
  intro y z a k j ds es h1 h2
  rcases hp.mem S.nodup h1 with ⟨e1,e1'⟩|⟨e1,m1⟩<;>rcases hp.mem S.nodup h2 with ⟨e2,e2'⟩|⟨e2,m2⟩
  ·rw [e1,e2]
  ·exact absurd m2 (ho a k ds (Option.some.inj e1').symm z j es e2)
  ·exact absurd m1 (ho a j es (Option.some.inj e2').symm y k ds e1)
  ·exact S.owns _ _ _ _ _ _ _ m1 m2
 rcases S.where_ hm with hl|⟨c,hk,hc,hlow⟩
 ·obtain ⟨m,hn⟩:=S.ns
  revert m;refine no_implicit_lambda%(hK ?_);generalize HK _=m;intro hn
  refine wpAny_storeName_local hl hn (fun h' hn' hs'=>hQ _ ?_ fun b o e h1 h2=>(hs'.2 b ?_).trans e) (by rw [S.kind]; rfl)
  rotate_left
  ·exact h1
  refine S.own_turn (ρ':=ρ') (a:=C.env.locals) S.low S.lg hs'.extBut ⟨_,hn'⟩ ?_ hp.names ?_ hown
  ·intro y c h1 h2 h3
   obtain ⟨⟨u,hu⟩,_⟩:=S.cells y c h1 h2 h3
   have:=S.locals_ne_cell hu
   obtain ⟨o',e,hd⟩:=hu
   exact ⟨u,o',(hs'.2 c this).trans e,hd⟩
  ·intro y b' hb'
   rcases hp.mem S.nodup hb' with ⟨e1,e2⟩|⟨hne,hmem⟩
   ·cases e2
    rw [e1]
    refine hb h' (.inl ⟨hl,_,hn',by simp⟩) fun b o1 e1 hbd=>(hs'.2 b ?_).trans e1
    rintro rfl
    obtain ⟨o',es,n,e,hd,_⟩:=hn
    obtain ⟨vs,k,hd'⟩:=hbd
    rw [e1] at e; cases e
    rw [hd] at hd'; cases hd'
   ·revert h' y b';refine no_implicit_lambda%(hK ?_);generalize HK _=h';intro hn' hs';refine no_implicit_lambda%(hK2 ?_);generalize (HK2 _).1=y,(HK2 _).2=b';intro hb' hne hmem
    refine pD hs'.extBut (fun u hu=>?_) ?_ (S.vars y b' hmem)
    ·revert u;refine no_implicit_lambda%(hK ?_);generalize HK _=u;intro hu
     rcases hu with ⟨k1,m1,n1,hm1⟩|⟨k1,c,hc,hv⟩
     ·revert m1;refine no_implicit_lambda%(hK ?_);generalize HK _=m1;intro n1 hm1
      refine .inl ⟨k1,_,hn',?_⟩
      show (if y=x then some v else m y)=some u
      rw [if_neg hne]
      have:m y=m1 y:=by
       obtain ⟨o1,es1,ep1,hq⟩:=hn; have e1:=hq.1; have d1:=hq.2.1; have f1:=hq.2.2.2
       obtain ⟨o2,es2,ep2,e2,d2,_,f2⟩:=n1
       rw [e1] at e2; cases e2
       rw [d1] at d2; cases d2
       rw [←f1,←f2]
      rw [this]; exact hm1
     ·have:=S.locals_ne_cell hv
      obtain ⟨o',hq⟩:=hv; have e:=hq.1; have hd:=hq.2
      exact .inr ⟨k1,c,hc,o',(hs'.2 c this).trans e,hd⟩
    ·rintro k ds rfl
     obtain ⟨_,⟨vs,n,e,_⟩,_⟩:=S.vars y _ hmem
     obtain ⟨o',es,n',e',hd,_⟩:=hn
     rw [e] at e'; cases e'; rw [a6] at hd; cases hd
 ·obtain ⟨⟨u,hu⟩,hgc⟩:=S.cells x c hk hc hlow
  revert c u;refine no_implicit_lambda%(hK ?_);generalize HK _=c;intro hc hlow hgc;refine no_implicit_lambda%(hK ?_);generalize HK _=u;intro hu
  have hcL:=S.locals_ne_cell hu
  refine wpAny_storeName_cell S.kind hk hc hu (fun h' hc' hs'=>hQ _ ?_ fun b o e h1 h2=>(hs'.2 b ?_).trans e)
  rotate_left
  ·rintro rfl
   obtain ⟨o',e',hd⟩:=hu
   rw [e] at e'; cases e'
   exact h2 _ hd
  refine S.own_turn (ρ':=ρ') (a:=c) (tk:=s.toks) hlow hgc hs'.extBut ?_ ?_ hp.names ?_ hown
  ·obtain ⟨m,hn⟩:=S.ns
   exact ⟨m,hn.at' fun o e=>(hs'.2 _ (Ne.symm hcL)).trans e⟩
  ·intro y c' h1 h2 h3
   by_cases e:c'=c
   ·subst e; exact ⟨_,hc'⟩
   ·obtain ⟨⟨u',o',e',hd⟩,_⟩:=S.cells y c' h1 h2 h3
    exact ⟨u',o',(hs'.2 c' e).trans e',hd⟩
  ·intro y b' hb'
   rcases hp.mem S.nodup hb' with ⟨e1,e2⟩|⟨hne,hmem⟩
   ·cases e2
    rw [e1]
    refine hb h' (.inr ⟨.inl hk,c,hc,hc'⟩) fun b o1 e1 hbd=>(hs'.2 b ?_).trans e1
    rintro rfl
    obtain ⟨o',e,hd⟩:=hu
    obtain ⟨vs,k,hd'⟩:=hbd
    rw [e1] at e; cases e
    rw [hd] at hd'; cases hd'
   ·refine pD hs'.extBut (fun u hu'=>lZ hs'.extBut (Ne.symm hcL) (fun c' _ h1 _=>?_) hu') ?_ (S.vars y b' hmem)
    ·rintro rfl; exact hne (S.apart _ _ _ h1 hc)
    ·rintro k ds rfl
     obtain ⟨_,⟨vs,n,e,_⟩,_⟩:=S.vars y _ hmem
     obtain ⟨o',e',hd⟩:=hu
     rw [e] at e'; cases e'; rw [a6] at hd; cases hd
theorem St.store (S:St W C ρ s g) {x:Str} {v:Value} {d:Dat} (hp:Put x (some (.val d)) ρ ρ') (hd:DatIn g v d) {Q:Unit->Shared->Prop}
  (hQ:∀s',St W C ρ' s' g->jG C.env.locals s s'->Q () s') {M:Model}:wpAny M A (storeName C.env x v) Q E s:=
 S.storeV hp (fun _ hh _=>⟨v,hh,hd⟩) (fun _ _ _ h=>nomatch h) hQ
theorem St.aside {s:Shared} {g:Gh} (S:St W C ρ s g) {a:Addr} {h':Heap} {tk:Tok} (h0:C.s0.heap.get? a=none) (hg:∀p∈g,p.1≠a) (hL:C.env.locals≠a) (hC:∀x c u,C.env.cells.lookup x=some c->s.heap.IsCell c u->c≠a) (hO:∀x k ds,(x,some (Bd.ownK a k ds))∉ρ)
  (hs:Heap.ExtBut a s.heap h'):St W C ρ { s with heap:=h',toks:=tk } g:=by
 refine S.own_turn (ρ':=ρ) h0 hg hs (let ⟨m,hn⟩:=S.ns; ⟨m,hn.at' fun o e=>hs _ _ hL e⟩) (fun y c h1 h2 h3=>?_) rfl (fun y b hb=>?_) S.owns
 ·obtain ⟨⟨u,hu⟩,_⟩:=S.cells y c h1 h2 h3
  have:=hC y c u h2 hu
  obtain ⟨o',hq⟩:=hu; have e:=hq.1; have hd:=hq.2
  exact ⟨u,o',hs c _ this e,hd⟩
 ·refine pD hs (fun v H=>lZ hs hL (fun c u q1 q2=>hC _ c u q1 q2) H) ?_ (S.vars y b hb)
  rintro k es rfl
  exact hO _ _ _ hb
end
end
end
section
open PySem PySem.W PySem.Calls PyProof.Rows
section
noncomputable def Ev (W:Wd) (C:Cx) (n:Nat) (ρ:aW) (e:Expr) (d:Dat):Prop:=
 ∀(A:Around) (s:Shared) (g:Gh) (E:Value->Shared->Prop),Room n A->St W C ρ s g ->
  wpAny (model W.prog W.w) A (eval e C.env) (fun v s'=>∃g',Ext W s g s' g'/\DatIn g' v d) E s
noncomputable def w6 (W:Wd) (C:Cx) (n:Nat) (ρ:aW) (es:List Expr) (ds:List Dat):Prop:=
 ∀(A:Around) (s:Shared) (g:Gh) (E:Value->Shared->Prop) (pos:Pos),Room n A->St W C ρ s g ->
  wpAny (model W.prog W.w) A (spliced (backTo pos (starEach es C.env))) (fun vs s'=>∃g',Ext W s g s' g'/\DatAll g' vs ds) E s
noncomputable def sH (W:Wd) (C:Cx) (n:Nat) (ρ:aW) (e:Expr) (b:Bool):Prop:=
 ∀(A:Around) (s:Shared) (g:Gh) (E:Value->Shared->Prop),Room n A->St W C ρ s g ->
  wpAny (model W.prog W.w) A (isTrue e C.env (eval e C.env)) (fun b' s'=>b'=b/\∃g',Ext W s g s' g') E s
noncomputable def lJ (W:Wd) (n:Nat) (t:Value->Value->Sem Value) (d₁ d₂ d:Dat):Prop:=
 ∀(A:Around) (s:Shared) (g:Gh) (E:Value->Shared->Prop) (v₁ v₂:Value),Room n A->Base W s g->DatIn g v₁ d₁->DatIn g v₂ d₂ ->
  wpAny (model W.prog W.w) A (t v₁ v₂) (fun v s'=>∃g',Ext W s g s' g'/\DatIn g' v d) E s
noncomputable def P0 (W:Wd) (n:Nat) (t:Value->Sem Value) (d₁ d:Dat):Prop:=
 ∀(A:Around) (s:Shared) (g:Gh) (E:Value->Shared->Prop) (v₁:Value),Room n A->Base W s g->DatIn g v₁ d₁ ->
  wpAny (model W.prog W.w) A (t v₁) (fun v s'=>∃g',Ext W s g s' g'/\DatIn g' v d) E s
noncomputable def H0 (W:Wd) (n:Nat) (t:List Value->Sem Value) (ds:List Dat) (d:Dat):Prop:=
 ∀(A:Around) (s:Shared) (g:Gh) (E:Value->Shared->Prop) (vs:List Value),Room n A->Base W s g->DatAll g vs ds ->
  wpAny (model W.prog W.w) A (t vs) (fun v s'=>∃g',Ext W s g s' g'/\DatIn g' v d) E s
variable {W:Wd} {C:Cx} {n:Nat} {ρ ρ':aW}
theorem dA {e:Expr} {d d':Dat} (h:Ev W C n ρ e d) (q:d=d'):Ev W C n ρ e d':=q▸h
theorem dV {e:Expr} {b b':Bool} (h:sH W C n ρ e b) (q:b=b'):sH W C n ρ e b':=q▸h
section
variable {A:Around} {s:Shared} {g:Gh} {E:Value->Shared->Prop}
theorem bD {v:Value} {d:Dat} {tk:Tok} (B:Base W s g) (h:DatIn g v d):∃g',Ext W s g { s with toks:=tk } g'/\DatIn g' v d:=⟨g,Ext.toks B.gok,h⟩
theorem aZ {v:Value} {d:Dat} (B:Base W s g) (h:DatIn g v d):∃g',Ext W s g s g'/\DatIn g' v d:=⟨g,Ext.refl B.gok,h⟩
end
theorem aH {i:Int} {k:Nat} {pos:Pos}:Ev W C n ρ (.Constant (.int i) k pos) (.int i):=fun _ _ _ _ _ S=>fun _ _ _=>bD S.base (.int _ _)
theorem aS {x:Str} {k:Nat} {pos:Pos}:Ev W C n ρ (.Constant (.str x) k pos) (.str x):=fun _ _ _ _ _ S=>fun _ _ _=>bD S.base (.str _ _)
theorem dX {x:List UInt8} {k:Nat} {pos:Pos}:Ev W C n ρ (.Constant (.bytes x) k pos) (.bytes x.toArray):=fun _ _ _ _ _ S=>fun _ _ _=>bD S.base (.bytes _ _)
theorem bO {b:Bool} {k:Nat} {pos:Pos}:Ev W C n ρ (.Constant (.bool b) k pos) (.bool b):=fun _ _ _ _ _ S=>fun _ _ _=>aZ S.base (.bool _)
theorem AZ {k:Nat} {pos:Pos}:Ev W C n ρ (.Constant .none k pos) .none:=fun _ _ _ _ _ S=>fun _ _ _=>aZ S.base .none
theorem aC {x:Str} {pos:Pos} {d:Dat} (h:Has ρ x (.val d)) (hd:(x==("__debug__":Str))=false:=by decide):Ev W C n ρ (.Name x pos) d:=fun A s g E _ S=>by
 obtain ⟨v,hq⟩:=S.vars _ _ h.mem; have hv:=hq.1; have hD:=hq.2
 exact wpAny_Name (bH S.kind hv (aZ S.base hD)) hd
inductive HasF:List (Str×Dat)->Str->Dat->Prop
 | head {x d l}:HasF ((x,d)::l) x d
 | tail {p l x d}:HasF l x d->HasF (p::l) x d
theorem HasF.mem {l:List (Str×Dat)} {x:Str} {d:Dat} (h:HasF l x d):(x,d)∈l:=by
 induction h with
 | head=>exact List.mem_cons_self
 | tail _ ih=>exact List.mem_cons_of_mem _ ih
theorem St.far_holds {s:Shared} {g:Gh} (S:St W C ρ s g) {x:Str} {d:Dat} (h:(x,d)∈C.far):∃v,eT C.env s.heap x v/\DatIn g v d:=by
 obtain ⟨h1,c,v,hq⟩:=S.fars _ h; have hc:=hq.1; have hv:=hq.2.2.1; have hd:=hq.2.2.2
 exact ⟨v,.inr ⟨h1,c,hc,hv⟩,hd⟩
theorem bK {x:Str} {pos:Pos} {d:Dat} (h:HasF C.far x d) (hd:autoParam ((x==("__debug__":Str))=false) Mine.aC._auto_1):Ev W C n ρ (.Name x pos) d:=fun A s g E _ S=>by
 obtain ⟨v,hq⟩:=S.far_holds h.mem; have hv:=hq.1; have hD:=hq.2
 exact wpAny_Name (bH S.kind hv (aZ S.base hD)) hd
theorem aD:w6 W C n ρ [] []:=fun _ _ _ _ _ _ S=>spliced_nil ⟨_,Ext.refl S.gok,.nil⟩
theorem aA {e:Expr} {es:List Expr} {d:Dat} {ds:List Dat} (h:Ev W C n ρ e d) (t:w6 W C n ρ es ds)
  (hs:∀env,starEach (e::es) env=(false,eval e env)::starEach es env:=by intro _; rfl):w6 W C n ρ (e::es) (d::ds):=fun A s g E pos r S=>by
 rw [hs]
 refine spliced_cons (go3 (h A s g E r S) (fun v s₁ g₁ x₁ hM=>?_))
 refine go3 (t A s₁ g₁ E pos r (S.step x₁)) (fun vs s₂ g₂ x₂ hU=>?_)
 exact ⟨g₂,x₁.trans x₂,.cons (hM.mono x₂.sub) hU⟩
theorem aJ {l r:Expr} {op:Operator} {pos:Pos} {d₁ d₂ d:Dat} (hl:Ev W C n ρ l d₁) (hr:Ev W C n ρ r d₂) (h:lJ W n (binaryOp op) d₁ d₂ d):Ev W C n ρ (.BinOp l op r pos) d:=fun A s g E R S =>
 wpAny_BinOp (go3 (hl A s g E R S) (fun a s₁ g₁ x₁ hM=>wpAny_mono (hr A s₁ g₁ E R (S.step x₁)) (fun b s₂ ⟨g₂,x₂,hU⟩ =>
  go3 (h A s₂ g₂ E a b R ((S.step x₁).step x₂).base (hM.mono x₂.sub) hU) (fun v s₃ g₃ x₃ hV=>⟨g₃,(x₁.trans x₂).trans x₃,hV⟩)) fun _ _ e=>e))
theorem kN {l r:Expr} {op:CmpOp} {pos:Pos} {d₁ d₂ d:Dat} (hl:Ev W C n ρ l d₁) (hr:Ev W C n ρ r d₂) (h:lJ W n (compareOp op) d₁ d₂ d)
  (hm:behindInMarks op r=false:=by with_unfolding_all rfl):Ev W C n ρ (.Compare l [op] [r] pos) d:=fun A s g E R S =>
 wpAny_Compare1 (go3 (hl A s g E R S) (fun a s₁ g₁ x₁ hM=>wpAny_mono (hr A s₁ g₁ E R (S.step x₁)) (fun b s₂ ⟨g₂,x₂,hU⟩ =>
  go3 (h A s₂ g₂ E a b R ((S.step x₁).step x₂).base (hM.mono x₂.sub) hU) (fun v s₃ g₃ x₃ hV=>⟨g₃,(x₁.trans x₂).trans x₃,hV⟩)) fun _ _ e=>e)) hm
theorem aN {l r:Expr} {op:CmpOp} {pos:Pos} {d₁ d₂:Dat} {b:Bool} (hl:Ev W C n ρ l d₁) (hr:Ev W C n ρ r d₂) (h:lJ W n (compareOp op) d₁ d₂ (.bool b))
  (hm:autoParam (behindInMarks op r=false) Mine.kN._auto_1):sH W C n ρ (.Compare l [op] [r] pos) b:=fun A s g E R S =>
 wpAny_isTrue_Compare1 (go3 (hl A s g E R S) (fun a s₁ g₁ x₁ hM=>wpAny_mono (hr A s₁ g₁ E R (S.step x₁)) (fun b s₂ ⟨g₂,x₂,hU⟩ =>
  go3 (h A s₂ g₂ E a b R ((S.step x₁).step x₂).base (hM.mono x₂.sub) hU) (fun v s₃ g₃ x₃ hV=>by
   cases hV
   exact wpAny_truthy_bool ⟨rfl,g₃,(x₁.trans x₂).trans x₃⟩)) fun _ _ e=>e)) hm
theorem mO {x:Expr} {pos:Pos} {b:Bool} (h:sH W C n ρ x b):sH W C n ρ (.UnaryOp .Not x pos) (!b):=fun A s g E R S =>
 wpAny_isTrue_Not (wpAny_mono (h A s g E R S) (fun b' s₁ hM=>⟨by rw [hM.1],hM.2⟩) fun _ _ e=>e)
inductive TstL (W:Wd) (C:Cx) (n:Nat) (ρ:aW):BoolOp->List Expr->Bool->Prop
 | nil {op}:TstL W C n ρ op [] (op==.And)
 | and {x xs b c}:sH W C n ρ x b->(b=true->TstL W C n ρ .And xs c)->TstL W C n ρ .And (x::xs) (b&&c)
 | or {x xs b c}:sH W C n ρ x b->(b=false->TstL W C n ρ .Or xs c)->TstL W C n ρ .Or (x::xs) (b||c)
theorem mW (op:BoolOp) (x:Expr) (rest:List Expr) (env:Env):allTrue op (x::rest) env=(do
  match op,←isTrue x env (eval x env) with
  | .And,false=>pure false
  | .Or,true=>pure true
  | _,_=>allTrue op rest env):=rfl
theorem zM {op:BoolOp} {xs:List Expr} {b:Bool} (h:TstL W C n ρ op xs b):∀(A:Around) (s:Shared) (g:Gh) (E:Value->Shared->Prop),Room n A->St W C ρ s g ->
  wpAny (model W.prog W.w) A (allTrue op xs C.env) (fun b' s'=>b'=b/\∃g',Ext W s g s' g') E s:=by
 induction h with
 | nil=>intro A s g E R S; exact wpAny_pure ⟨rfl,_,Ext.refl S.gok⟩
 | @and x xs b c h _ ih =>
  intro A s g E R S
  rw [mW]
  refine wpAny_bind (wpAny_mono (h A s g E R S) (fun b' s₁ hM=>?_) fun _ _ e=>e)
  obtain ⟨rfl,g₁,x₁⟩:=hM
  cases b' with
  | false=>exact wpAny_pure ⟨rfl,_,x₁⟩
  | true=>exact wpAny_mono (ih rfl A s₁ g₁ E R (S.step x₁)) (fun b' s₂ ⟨e,g₂,x₂⟩=>⟨by rw [e]; rfl,g₂,x₁.trans x₂⟩) fun _ _ e=>e
 | @or x xs b c h _ ih =>
  intro A s g E R S
  rw [mW]
  refine wpAny_bind (wpAny_mono (h A s g E R S) (fun b' s₁ hM=>?_) fun _ _ e=>e)
  obtain ⟨rfl,g₁,x₁⟩:=hM
  cases b' with
  | true=>exact wpAny_pure ⟨rfl,_,x₁⟩
  | false=>exact wpAny_mono (ih rfl A s₁ g₁ E R (S.step x₁)) (fun b' s₂ ⟨e,g₂,x₂⟩=>⟨by rw [e]; rfl,g₂,x₁.trans x₂⟩) fun _ _ e=>e
theorem cF {op:BoolOp} {xs:List Expr} {pos:Pos} {b:Bool} (h:TstL W C n ρ op xs b):sH W C n ρ (.BoolOp op xs pos) b:=fun A s g E R S =>
 wpAny_isTrue_BoolOp (zM h A s g E R S)
noncomputable def ON (W:Wd) (n:Nat) (d:Dat) (b:Bool):Prop:=
 ∀(A:Around) (s:Shared) (g:Gh) (E:Value->Shared->Prop) (v:Value),Room n A->Base W s g->DatIn g v d ->
  wpAny (model W.prog W.w) A (truthy v) (fun b' s'=>b'=b/\∃g',Ext W s g s' g') E s
theorem fU {b:Bool}:ON W n (.bool b) b:=fun A s g E v R B h=>by
 cases h
 exact wpAny_truthy_bool ⟨rfl,_,Ext.refl B.gok⟩
theorem AR {x:Str} (hx:x.length<=1000000):ON W n (.str x) ((x.length:Int)!=0):=fun A s g E v R B h=>by
 cases h
 exact P.truthy_str (by lia) ⟨rfl,_,Ext.toks B.gok⟩
theorem FD:ON W n .none false:=fun A s g E v R B h=>by
 cases h
 exact fun _ _ _=>⟨rfl,_,Ext.refl B.gok⟩
theorem eM {e:Expr} {d:Dat} {b:Bool} (h:Ev W C n ρ e d) (t:ON W n d b)
  (he:∀env whole,isTrue e env whole=(do let v←whole; standAt e.pos; holding [v] (truthy v)):=by intro _ _; rfl):sH W C n ρ e b:=fun A s g E R S =>
 wpAny_isTrue_value (wpAny_mono (h A s g E R S) (fun v s₁ ⟨g₁,x₁,hM⟩=>wpAny_mono (t A s₁ g₁ E v R (S.step x₁).base hM) (fun b' s₂ ⟨e,g₂,x₂⟩=>⟨e,g₂,x₁.trans x₂⟩) fun _ _ e=>e) fun _ _ e=>e) (he _ _)
theorem Ext.push {s:Shared} {g:Gh} {o:Obj} (B:Base W s g) (hf:o.isFreed=false):Ext W s g { s with heap:=s.heap.push o } ((s.heap.objs.size,o)::g):=by
 refine Ext.of_new (tk:=s.toks) [(s.heap.objs.size,o)] B (fun b o' e=>Heap.get?_push_of_some _ e) fun p hp=>?_
 rw [List.mem_singleton.mp hp]
 refine ⟨Heap.get?_push_size _ hf,?_⟩
 cases e:s.heap.get? s.heap.objs.size with
 | none=>rfl
 | some o'=>exact absurd (Heap.lt_size e) (Nat.lt_irrefl _)
theorem get?_size (h:Heap):h.get? h.objs.size=none:=by
 cases e:h.get? h.objs.size with
 | none=>rfl
 | some o'=>exact absurd (Heap.lt_size e) (Nat.lt_irrefl _)
section
variable {A:Around} {s:Shared} {g:Gh} {E:Value->Shared->Prop}
theorem tN {vs:List Value} {ds:List Dat} (B:Base W s g) (h:DatAll g vs ds) (hz:ds.length<=sizeLine) :
  wpAny (model W.prog W.w) A (newTuple vs) (fun v s'=>∃g',Ext W s g s' g'/\DatIn g' v (.tuple ds)) E s:=
 wpAny_newObj_type ⟨_,Ext.push B rfl,.tuple List.mem_cons_self (h.mono fun p hp=>List.mem_cons_of_mem _ hp)⟩ (by show vs.toArray.size<=sizeLine; rw [List.size_toArray,h.length]; exact hz)
theorem qZ {vs:List Value} {ds:List Dat} (B:Base W s g) (h:DatAll g vs ds) (hz:ds.length<=sizeLine) :
  wpAny (model W.prog W.w) A (newList vs) (fun v s'=>∃g',Ext W s g s' g'/\DatIn g' v (.list ds)) E s:=
 wpAny_newObj_type ⟨_,Ext.push B rfl,.list List.mem_cons_self (h.mono fun p hp=>List.mem_cons_of_mem _ hp)⟩ (by show vs.toArray.size<=sizeLine; rw [List.size_toArray,h.length]; exact hz)
end
theorem bF {es:List Expr} {ds:List Dat} {k:Nat} {pos:Pos} (h:w6 W C n ρ es ds) (hz:ds.length<=sizeLine:=by first|decide|size_fits):Ev W C n ρ (.Tuple es k pos) (.tuple ds):=fun A s g E R S =>
 Tuple_ (go3 (h A s g E pos R S) (fun vs s₁ g₁ x₁ hM=>go3 (tN (S.step x₁).base hM hz) (fun v s₂ g₂ x₂ hU=>⟨g₂,x₁.trans x₂,hU⟩)))
theorem cO {es:List Expr} {ds:List Dat} {pos:Pos} (h:w6 W C n ρ es ds) (hz:autoParam (ds.length<=sizeLine) Mine.bF._auto_1):Ev W C n ρ (.List es pos) (.list ds):=fun A s g E R S =>
 List_ (go3 (h A s g E pos R S) (fun vs s₁ g₁ x₁ hM=>go3 (qZ (S.step x₁).base hM hz) (fun v s₂ g₂ x₂ hU=>⟨g₂,x₁.trans x₂,hU⟩)))
theorem jA {A:Around} {s:Shared} {g:Gh} {E:Value->Shared->Prop} {x:Str} {pos:Pos} {v:Value} {Q:Value->Shared->Prop} (S:St W C ρ s g) (hm:W.mg x=some v) (hk:C.env.kindOf x=some .globalImplicit)
  (hd:(x==("__debug__":Str))=false) (h:Q v s):wpAny (model W.prog W.w) A (eval (.Name x pos) C.env) Q E s:=
 Name_function_global S.kind hk (loadGlobal_global (by rw [S.globals]; exact S.base.wok.mg.at' fun o e=>S.base.topk _ _ e (S.base.wok.ns_tb (OldK.refl _) S.base.wok.mg)) hm h) hd
theorem cY {A:Around} {s:Shared} {g:Gh} {E:Value->Shared->Prop} {x:Str} {pos:Pos} {v:Value} {Q:Value->Shared->Prop} (S:St W C ρ s g) (hm:W.mg x=none) (hb:W.mb x=some v) (hk:C.env.kindOf x=some .globalImplicit)
  (hd:(x==("__debug__":Str))=false) (h:Q v s):wpAny (model W.prog W.w) A (eval (.Name x pos) C.env) Q E s:=
 Name_function_global S.kind hk (loadGlobal_builtin (by rw [S.globals]; exact S.base.wok.mg.at' fun o e=>S.base.topk _ _ e (S.base.wok.ns_tb (OldK.refl _) S.base.wok.mg)) hm
  (by rw [S.builtins]; exact S.base.wok.mb.at' fun o e=>S.base.topk _ _ e (S.base.wok.ns_tb (OldK.refl _) S.base.wok.mb)) hb h) hd
theorem oB {x y:Str} {t:Tok} {pos:Pos} (hm:W.mg x=some (.str y t)) (hk:C.env.kindOf x=some .globalImplicit) (hd:autoParam ((x==("__debug__":Str))=false) Mine.aC._auto_1):Ev W C n ρ (.Name x pos) (.str y):=
 fun _ _ _ _ _ S=>jA S hm hk hd (aZ S.base (.str _ _))
noncomputable def Fn (W:Wd) (n:Nat) (f:Addr) (ds:List Dat) (d:Dat):Prop:=
 ∀(A:Around) (s:Shared) (g:Gh) (vs:List Value),Room n A->Base W s g->DatAll g vs ds ->
  codeAny (model W.prog W.w) A (.call (.ref f) ⟨vs,[]⟩) (fun r s'=>∃v g',r=.ok (.ret v)/\Ext W s g s' g'/\DatIn g' v d) s
structure IsFn (W:Wd) (f:Addr) (fd:FuncData):Prop where
 obj:∃o,W.top.get? f=some o/\o.data=.func fd
 tb:f∉W.tb
theorem IsFn.at {f:Addr} {fd:FuncData} (h:IsFn W f fd) {s:Shared} {g:Gh} (B:Base W s g):∃o,s.heap.get? f=some o/\o.data=.func fd:=
 let ⟨o,e,hd⟩:=h.obj; ⟨o,B.topk _ _ e h.tb,hd⟩
theorem A1 {A:Around} {s:Shared} {g:Gh} {E:Value->Shared->Prop} {f:Addr} {vs:List Value} {ds:List Dat} {d:Dat} (h:Fn W n f ds d) (R:Room n A) (B:Base W s g) (hv:DatAll g vs ds) :
  wpAny (model W.prog W.w) A (call (.ref f) vs) (fun v s'=>∃g',Ext W s g s' g'/\DatIn g' v d) E s:=
 wpAny_call (codeAny_mono (h A s g vs R B hv) fun r s' q=>by
  obtain ⟨v,g',rfl,x,hd⟩:=q
  exact ⟨g',x,hd⟩)
theorem OC {x:Str} {p pos:Pos} {args:List Expr} {ds:List Dat} {d:Dat} {f:Addr} {fd:FuncData} (hm:W.mg x=some (.ref f)) (hf:IsFn W f fd) (ha:w6 W C n ρ args ds) (h:Fn W n f ds d)
  (hk:C.env.kindOf x=some .globalImplicit) (he:∀env pos,∃t ts,backTo pos (starEach args env)=(false,t)::ts:=by intro _ _; exact ⟨_,_,rfl⟩) (hd:autoParam ((x==("__debug__":Str))=false) Mine.aC._auto_1) :
  Ev W C n ρ (.Call (.Name x p) args [] pos) d:=fun A s g E R S=>by
 refine wpAny_Call_NameR (jA S hm hk hd ?_)
 obtain ⟨o,hq⟩:=hf.at S.base; have ho:=hq.1; have hdat:=hq.2
 obtain ⟨t,ts,ht⟩:=he C.env pos
 have q:=ha A s g E pos R S
 rw [ht] at q ⊢
 refine callWith_function (o:=o) (fd:=fd) (evalArgs_plain (wpAny_mono q (fun vs s₁ ⟨g₁,x₁,hM⟩=>?_) fun _ _ e=>e))
 refine ⟨⟨x₁.keep _ _ ho (S.base.wok.data_tb S.base.old ho (by rw [hdat]; intro _ z; cases z)),hdat⟩,?_⟩
 exact go3 (A1 h R (S.step x₁).base hM) (fun v s₂ g₂ x₂ hU=>⟨g₂,x₁.trans x₂,hU⟩)
theorem bT {x:Str} {p pos:Pos} {args:List Expr} {ds:List Dat} {d:Dat} {id:String} (hm:W.mg x=none) (hb:W.mb x=some (.builtin id)) (ha:w6 W C n ρ args ds) (h:H0 W n (fun vs=>call (.builtin id) vs) ds d)
  (hk:C.env.kindOf x=some .globalImplicit) (he:autoParam (∀env pos,∃t ts,backTo pos (starEach args env)=(false,t)::ts) Mine.OC._auto_1)
  (hp:autoParam (∀env pos,(backTo pos (starEach args env)).any (·.1)=false) Mine.eM._auto_1) (hd:autoParam ((x==("__debug__":Str))=false) Mine.aC._auto_1) :
  Ev W C n ρ (.Call (.Name x p) args [] pos) d:=fun A s g E R S=>by
 refine wpAny_Call_NameR (cY S hm hb hk hd ?_)
 have hp':=hp C.env pos
 obtain ⟨t,ts,ht⟩:=he C.env pos
 have q:=ha A s g E pos R S
 rw [ht] at q hp' ⊢
 refine callWith_builtin hp' (evalArgs_plain (wpAny_mono q (fun vs s₁ ⟨g₁,x₁,hM⟩=>?_) fun _ _ e=>e))
 exact go3 (h A s₁ g₁ E vs R (S.step x₁).base hM) (fun v s₂ g₂ x₂ hU=>⟨g₂,x₁.trans x₂,hU⟩)
theorem E0 {x:Str} {p pos:Pos} {args:List Expr} {ds:List Dat} {d:Dat} {T:String} (hm:W.mg x=none) (hb:W.mb x=some (.type T)) (ha:w6 W C n ρ args ds) (h:H0 W n (fun vs=>call (.type T) vs) ds d)
  (hk:C.env.kindOf x=some .globalImplicit) (he:autoParam (∀env pos,∃t ts,backTo pos (starEach args env)=(false,t)::ts) Mine.OC._auto_1)
  (hp:autoParam (∀env pos,(backTo pos (starEach args env)).any (·.1)=false) Mine.eM._auto_1) (hd:autoParam ((x==("__debug__":Str))=false) Mine.aC._auto_1) :
  Ev W C n ρ (.Call (.Name x p) args [] pos) d:=fun A s g E R S=>by
 refine wpAny_Call_NameR (cY S hm hb hk hd ?_)
 have hp':=hp C.env pos
 obtain ⟨t,ts,ht⟩:=he C.env pos
 have q:=ha A s g E pos R S
 rw [ht] at q hp' ⊢
 refine PySem.callWith_type hp' (evalArgs_plain (wpAny_mono q (fun vs s₁ ⟨g₁,x₁,hM⟩=>?_) fun _ _ e=>e))
 exact go3 (h A s₁ g₁ E vs R (S.step x₁).base hM) (fun v s₂ g₂ x₂ hU=>⟨g₂,x₁.trans x₂,hU⟩)
structure IsMeth (W:Wd) (n:Nat) (d₀:Dat) (name:Str) (ds:List Dat) (d:Dat):Prop where
 ok:∃(T id:String),PlainAttrs T/\Slot T name id/\typeOf (.builtin id)=pure (.type "method_descriptor") /\
  (∀(s:Shared) (g:Gh) v,pE W g s.heap->DatIn g v d₀->s.TypeIs v T/\∀a,v=.ref a->∃ob,s.heap.get? a=some ob/\ob.dict=none)/\H0 W n (fun vs=>call (.builtin id) vs) (d₀::ds) d
theorem dG {o:Expr} {name:Str} {apos pos:Pos} {args:List Expr} {d₀ d:Dat} {ds:List Dat} (ho:Ev W C n ρ o d₀) (ha:w6 W C n ρ args ds) (h:IsMeth W n d₀ name ds d)
  (hbase:autoParam (∀env,attributeBase o name env (eval o env)=eval o env) Mine.aA._auto_1)
  (hfew:autoParam (∀env,((backTo pos (starEach args env)).all (fun x => !x.1)&&(backToKw pos (keywordEach [] env)).all (fun x=>x.1.isSome)
   && decide (args.length+([]:List Keyword).length+(if ([]:List Keyword).isEmpty then 0 else 1)<30))=true) Mine.aA._auto_1)
  (hline:(apos.endLine==pos.line)=true:=by rfl) (he:autoParam (∀env pos,∃t ts,backTo pos (starEach args env)=(false,t)::ts) Mine.OC._auto_1)
  (hp:autoParam (∀env pos,(backTo pos (starEach args env)).any (·.1)=false) Mine.eM._auto_1) :
  Ev W C n ρ (.Call (.Attribute o name apos) args [] pos) d:=fun A s g E R S=>by
 refine wpAny_Call_method_lateS (hbase _) (hfew _) hline (go3 (ho A s g E R S) (fun ov s₁ g₁ x₁ hM=>?_))
 obtain ⟨T,id,hq⟩:=h.ok; have pa:=hq.1; have sl:=hq.2.1; have ty:=hq.2.2.1; have hT:=hq.2.2.2.1; have hc:=hq.2.2.2.2
 obtain ⟨t1,t2⟩:=hT s₁ g₁ ov x₁.ok hM
 refine ⟨T,id,pa,sl,ty,t1,t2,?_⟩
 have hp':=hp C.env pos
 have q:=ha A s₁ g₁ E pos R (S.step x₁)
 obtain ⟨t,ts,ht⟩:=he C.env pos
 rw [ht] at q hp' ⊢
 refine callWith_builtin hp' (evalArgs_plain (wpAny_mono q (fun vs s₂ ⟨g₂,x₂,hU⟩=>?_) fun _ _ e=>e))
 exact go3 (hc A s₂ g₂ E (ov::vs) R ((S.step x₁).step x₂).base (.cons (hM.mono x₂.sub) hU)) (fun v s₃ g₃ x₃ hV=>⟨g₃,(x₁.trans x₂).trans x₃,hV⟩)
theorem dJ {o:Expr} {name:Str} {apos pos:Pos} {d₀ d:Dat} (ho:Ev W C n ρ o d₀) (h:IsMeth W n d₀ name [] d)
  (hbase:autoParam (∀env,attributeBase o name env (eval o env)=eval o env) Mine.aA._auto_1)
  (hline:autoParam ((apos.endLine==pos.line)=true) Mine.dG._auto_1) :
  Ev W C n ρ (.Call (.Attribute o name apos) [] [] pos) d:=fun A s g E R S=>by
 refine wpAny_Call_method_lateS (hbase _) rfl hline (go3 (ho A s g E R S) (fun ov s₁ g₁ x₁ hM=>?_))
 obtain ⟨T,id,hq⟩:=h.ok; have pa:=hq.1; have sl:=hq.2.1; have ty:=hq.2.2.1; have hT:=hq.2.2.2.1; have hc:=hq.2.2.2.2
 obtain ⟨t1,t2⟩:=hT s₁ g₁ ov x₁.ok hM
 refine ⟨T,id,pa,sl,ty,t1,t2,?_⟩
 refine callWith_builtin rfl (evalArgs_nil3 ?_)
 exact go3 (hc A s₁ g₁ E [ov] R (S.step x₁).base (.cons hM .nil)) (fun v s₃ g₃ x₃ hV=>⟨g₃,x₁.trans x₃,hV⟩)
end
section
inductive Fl where
 | next|brk|cont
 | ret (d:Dat)
noncomputable def Q8 (g:Gh):Flow->Fl->Prop
 | .next,.next=>True
 | .brk,.brk=>True
 | .cont,.cont=>True
 | .ret v,.ret d=>DatIn g v d
 | _,_=>False
noncomputable def wN (W:Wd) (C:Cx) (g:Gh) (P:Fl->aW->Prop) (f:Flow) (s':Shared):Prop:=
 ∃fl ρ' g',P fl ρ'/\St W C ρ' s' g'/\(∀p∈g,p∈g')/\Q8 g' f fl
theorem wN.up {g g₁:Gh} {P:Fl->aW->Prop} {f:Flow} {s':Shared} (hg:∀p∈g,p∈g₁) (h:wN W C g₁ P f s'):wN W C g P f s':=by
 obtain ⟨fl,r,g',hq⟩:=h
 exact ⟨fl,r,g',hq.1,hq.2.1,fun p hp=>hq.2.2.1 p (hg p hp),hq.2.2.2⟩
theorem wN.imp {g:Gh} {P P':Fl->aW->Prop} {f:Flow} {s':Shared} (hm:∀fl r,P fl r->P' fl r) (h:wN W C g P f s'):wN W C g P' f s':=by
 obtain ⟨fl,r,g',hq⟩:=h
 exact ⟨fl,r,g',hm _ _ hq.1,hq.2⟩
theorem OL {M:Model} {A:Around} {x:Sem Flow} {E:Value->Shared->Prop} {s:Shared} {g g₁:Gh} {P:Fl->aW->Prop} (hg:∀p∈g,p∈g₁) (h:wpAny M A x (wN W C g₁ P) E s):wpAny M A x (wN W C g P) E s:=
 wpAny_mono h (fun _ _ q=>q.up hg) fun _ _ e=>e
noncomputable def Ex (W:Wd) (C:Cx) (n:Nat) (ρ:aW) (st:Stmt) (P:Fl->aW->Prop):Prop:=
 ∀(A:Around) (s:Shared) (g:Gh) (E:Value->Shared->Prop),Room n A->St W C ρ s g->wpAny (model W.prog W.w) A (exec st C.env) (wN W C g P) E s
noncomputable def cD (W:Wd) (C:Cx) (n:Nat) (ρ:aW) (sts:List Stmt) (P:Fl->aW->Prop):Prop:=
 ∀(A:Around) (s:Shared) (g:Gh) (E:Value->Shared->Prop),Room n A->St W C ρ s g->wpAny (model W.prog W.w) A (execs sts C.env) (wN W C g P) E s
variable {W:Wd} {C:Cx} {n:Nat} {ρ ρ':aW} {P P':Fl->aW->Prop}
theorem aQ (h:P .next ρ):cD W C n ρ [] P:=fun A s g E R S=>wpAny_execs_nil ⟨.next,ρ,g,h,S,fun _ h=>h,trivial⟩
theorem aP {st:Stmt} {rest:List Stmt} (h:Ex W C n ρ st P') (hn:∀ρ',P' .next ρ'->cD W C n ρ' rest P) (ho:∀fl ρ',fl≠.next->P' fl ρ'->P fl ρ'):cD W C n ρ (st::rest) P:=fun A s g E R S=>by
 refine wpAny_execs_cons (wpAny_mono (h A s g E R S) (fun f s' ⟨fl,ρ',g',hp,S',hg,hf⟩=>?_) fun _ _ e=>e)
 cases f<;>cases fl<;>first
  | exact hf.elim
  | exact ⟨_,ρ',g',ho _ _ (by intro z; cases z) hp,S',hg,hf⟩
  | exact OL hg (hn ρ' hp A s' g' E R S')
theorem fS {sts:List Stmt} (h:cD W C n ρ sts P') (hm:∀fl ρ',P' fl ρ'->P fl ρ'):cD W C n ρ sts P:=fun A s g E R S =>
 wpAny_mono (h A s g E R S) (fun f s' q=>q.imp hm) fun _ _ e=>e
noncomputable def iS (ρ':aW):Fl->aW->Prop:=fun fl r=>fl=.next/\r=ρ'
theorem aI {st:Stmt} {rest:List Stmt} (h:Ex W C n ρ st (iS ρ')) (hn:cD W C n ρ' rest P):cD W C n ρ (st::rest) P:=
 aP h (fun _ q=>q.2▸hn) fun _ _ hne q=>absurd q.1 hne
theorem aY {x:Str} {p pos:Pos} {e:Expr} {d:Dat} (h:Ev W C n ρ e d) (hp:Put x (some (.val d)) ρ ρ') (hs:autoParam (∀env,swapsWith e (some (.Name x p)) pos.line env=pure false) Mine.aA._auto_1) :
  Ex W C n ρ (.Assign [.Name x p] e pos) (iS ρ'):=fun A s g E R S =>
 wpAny_Assign_Name (go3 (h A s g E R S) (fun v s₁ g₁ x₁ hM=>(S.step x₁).store hp hM fun s' S' _=>⟨.next,ρ',g₁,⟨rfl,rfl⟩,S',x₁.sub,trivial⟩)) (hs _)
theorem GU {x:Str} {p pos:Pos} {op:Operator} {e:Expr} {d₀ d₁ d:Dat} (hE:Has ρ x (.val d₀)) (h:Ev W C n ρ e d₁) (ho:lJ W n (inplaceOp op) d₀ d₁ d) (hp:Put x (some (.val d)) ρ ρ') :
  Ex W C n ρ (.AugAssign (.Name x p) op e pos) (iS ρ'):=fun A s g E R S=>by
 obtain ⟨v,hq⟩:=S.vars _ _ hE.mem; have hv:=hq.1; have hD:=hq.2
 refine wpAny_AugAssign_Name (bH S.kind hv ?_)
 refine go3 (h A s g E R S) (fun v₁ s₁ g₁ x₁ hM=>?_)
 refine go3 (ho A s₁ g₁ E v v₁ R (S.step x₁).base (hD.mono x₁.sub) hM) (fun v₂ s₂ g₂ x₂ hU=>?_)
 exact ((S.step x₁).step x₂).store hp hU fun s' S' _=>⟨.next,ρ',g₂,⟨rfl,rfl⟩,S',fun p hp=>x₂.sub p (x₁.sub p hp),trivial⟩
theorem gJ {t:Expr} {body orelse:List Stmt} {pos:Pos} {b:Bool} (h:sH W C n ρ t b) (h1:b=true->cD W C n ρ body P) (h2:b=false->cD W C n ρ orelse P):Ex W C n ρ (.If t body orelse pos) P:=fun A s g E R S=>by
 refine wpAny_If (wpAny_mono (h A s g E R S) (fun b' s₁ hq=>?_) fun _ _ e=>e)
 obtain ⟨e,g₁,x₁⟩:=hq
 subst e
 have up:∀f s',wN W C g₁ P f s'->wN W C g P f s':=fun f s' h=>h.up x₁.sub
 cases b' with
 | true=>exact wpAny_mono (h1 rfl A s₁ g₁ E R (S.step x₁)) up fun _ _ e=>e
 | false=>exact wpAny_mono (h2 rfl A s₁ g₁ E R (S.step x₁)) up fun _ _ e=>e
theorem MG {e:Expr} {pos:Pos} {d:Dat} (h:Ev W C n ρ e d) (hp:P (.ret d) ρ):Ex W C n ρ (.Return (some e) pos) P:=fun A s g E R S =>
 wpAny_Return_some (wpAny_mono (h A s g E R S) (fun v s₁ ⟨g₁,x₁,hM⟩=>⟨.ret d,ρ,g₁,hp,S.step x₁,x₁.sub,hM⟩) fun _ _ e=>e)
theorem DO {t:Expr} {m:Option Expr} {pos:Pos} (h:sH W C n ρ t true):Ex W C n ρ (.Assert t m pos) (iS ρ):=fun A s g E R S =>
 wpAny_Assert_holds (wpAny_mono (h A s g E R S) (fun b s₁ ⟨e,g₁,x₁⟩=>⟨e,.next,ρ,g₁,⟨rfl,rfl⟩,S.step x₁,x₁.sub,trivial⟩) fun _ _ e=>e)
theorem cN {e:Expr} {pos:Pos} {d:Dat} {rest:List Stmt} (h:Ev W C n ρ e d) (hp:P (.ret d) ρ):cD W C n ρ (.Return (some e) pos::rest) P:=
 aP (P':=fun fl r=>fl=.ret d/\r=ρ) (MG h ⟨rfl,rfl⟩) (fun _ q=>nomatch q.1) fun _ _ _ q=>by rw [q.1,q.2]; exact hp
theorem St.forget {s:Shared} {g:Gh} (S:St W C ρ s g) (hn:ρ'.map (·.1)=ρ.map (·.1)) (hs:∀x b,(x,some b)∈ρ'->(x,some b)∈ρ):St W C ρ' s g where
 base:=S.base
 base0:=S.base0
 ext:=S.ext
 kind:=S.kind
 globals:=S.globals
 builtins:=S.builtins
 low:=S.low
 ns:=S.ns
 lg:=S.lg
 ex:=fun p hp=>by
  have:p.1∈ρ'.map (·.1):=List.mem_map.mpr ⟨p,hp,rfl⟩
  rw [hn] at this
  obtain ⟨q,hq,e⟩:=List.mem_map.mp this
  rw [←e]; exact S.ex q hq
 cells:=S.cells
 apart:=S.apart
 nodup:=by rw [hn]; exact S.nodup
 vars:=fun x b h=>S.vars x b (hs x b h)
 owns:=fun x y a k j ds es h1 h2=>S.owns x y a k j ds es (hs _ _ h1) (hs _ _ h2)
 fars:=S.fars
inductive Sub:aW->aW->Prop
 | nil:Sub [] []
 | same {p ρ ρ'}:Sub ρ' ρ->Sub (p::ρ') (p::ρ)
 | drop {x b ρ ρ'}:Sub ρ' ρ->Sub ((x,none)::ρ') ((x,b)::ρ)
theorem Sub.names (h:Sub ρ' ρ):ρ'.map (·.1)=ρ.map (·.1):=by
 induction h with
 | nil=>rfl
 | same _ ih=>simp only [List.map_cons,List.map_cons,ih]
 | drop _ ih=>simp only [List.map_cons,List.map_cons,ih]
theorem Sub.mem (h:Sub ρ' ρ) {x:Str} {b:Bd} (m:(x,some b)∈ρ'):(x,some b)∈ρ:=by
 induction h with
 | nil=>exact m
 | same _ ih =>
  rcases List.mem_cons.mp m with e|m
  ·rw [e]; exact List.mem_cons_self
  ·exact List.mem_cons_of_mem _ (ih m)
 | drop _ ih =>
  rcases List.mem_cons.mp m with e|m
  ·cases e
  ·exact List.mem_cons_of_mem _ (ih m)
theorem St.sub {s:Shared} {g:Gh} (S:St W C ρ s g) (h:Sub ρ' ρ):St W C ρ' s g:=S.forget h.names fun _ _ m=>h.mem m
theorem Sub.refl:∀ρ:aW,Sub ρ ρ
 | []=>.nil
 | _::ρ=>.same (Sub.refl ρ)
theorem St.freeze {s:Shared} {g:Gh} (S:St W C ρ s g) {x:Str} {a:Addr} {ds:List Dat} (h:(x,some (.own a ds))∈ρ) (hp:Put x (some (.val (.list ds))) ρ ρ'):∃g',(∀p∈g,p∈g')/\St W C ρ' s g':=by
 revert S h hp;revert W C ρ ρ' s g x a ds;refine no_implicit_lambda%(hK9 ?_);generalize (HK9 _).1=W,(HK9 _).2.1=C,(HK9 _).2.2.1=ρ,(HK9 _).2.2.2.1=ρ',(HK9 _).2.2.2.2.1=s,(HK9 _).2.2.2.2.2.1=g,(HK9 _).2.2.2.2.2.2.1=x,(HK9 _).2.2.2.2.2.2.2.1=a,(HK9 _).2.2.2.2.2.2.2.2=ds;intro S h hp
 obtain ⟨hv,⟨vs,k,ha,hd⟩,hg,hl,_⟩:=S.vars _ _ h
 revert vs k;refine no_implicit_lambda%(hK2 ?_);generalize (HK2 _).1=vs,(HK2 _).2=k;intro ha hd
 have ha:s.heap.get? a=some (listOf vs.toArray k):=ha
 have hsub:∀p∈g,p∈(a,listOf vs.toArray k)::g:=fun p hp=>List.mem_cons_of_mem _ hp
 have hok:pE W ((a,listOf vs.toArray k)::g) s.heap:=fun p hp=>by
  rcases List.mem_cons.mp hp with rfl|hp
  ·exact ⟨ha,S.base.wok.data_tb S.base.old ha (by intro _ z; cases z)⟩
  ·exact S.base.gok p hp
 refine ⟨(a,listOf vs.toArray k)::g,hsub,?_⟩
 refine ⟨⟨S.base.wok,hok,S.base.topk,S.base.old,S.base.bare,S.base.os,S.base.tabs⟩,S.base0,⟨S.ext.keep,S.ext.old,fun p hp=>hsub p (S.ext.sub p hp),hok,fun p hp=>?_,S.ext.os,S.ext.bare,S.ext.tabs⟩,S.kind,S.globals,S.builtins,S.low,S.ns,fun p hp=>?_,hp.where_ S.ex,fun y c h1 h2 h3=>⟨(S.cells y c h1 h2 h3).1,fun p hp=>?_⟩,S.apart,by rw [hp.names]; exact S.nodup,fun y b hb=>?_,fun y z b k1 k2 es fs h1 h2=>?_,fun p hp=>?_⟩
 ·rcases List.mem_cons.mp hp with rfl|hp
  ·exact .inr hl
  ·exact S.ext.new p hp
 ·rcases List.mem_cons.mp hp with rfl|hp
  ·obtain ⟨m,o,es,k',e,hdat,_⟩:=S.ns
   rintro rfl
   rw [ha] at e; cases e; cases hdat
  ·exact S.lg p hp
 ·rcases List.mem_cons.mp hp with rfl|hp
  ·obtain ⟨⟨u,o,e,hdat⟩,_⟩:=S.cells y c h1 h2 h3
   rintro rfl
   rw [ha] at e; cases e; cases hdat
  ·exact (S.cells y c h1 h2 h3).2 p hp
 ·rcases hp.mem S.nodup hb with ⟨rfl,e⟩|⟨hne,hm⟩
  ·cases e
   exact ⟨_,hv,.list List.mem_cons_self (hd.mono hsub)⟩
  ·have q:=S.vars y b hm
   cases b with
   | val d=>obtain ⟨v,hq⟩:=q; have q1:=hq.1; have q2:=hq.2; exact ⟨v,q1,q2.mono hsub⟩
   | raw v os=>exact ⟨q.1,fun p hp=>⟨hsub p (q.2 p hp).1,(q.2 p hp).2⟩⟩
   | ownK a' kk es =>
    revert y a' kk es;refine no_implicit_lambda%(hK ?_);generalize HK _=y;intro hne;refine no_implicit_lambda%(hK3 ?_);generalize (HK3 _).1=a',(HK3 _).2.1=kk,(HK3 _).2.2=es;intro hb hm q
    obtain ⟨q1,⟨us,k',q2,q3⟩,q4,q5,q6⟩:=q
    refine ⟨q1,⟨us,k',q2,q3.mono hsub⟩,fun p hp=>?_,q5,fun c d o e=>⟨hsub _ (q6 c d o e).1,(q6 c d o e).2⟩⟩
    rcases List.mem_cons.mp hp with rfl|hp
    ·rintro rfl; exact hne (S.owns _ _ _ _ _ _ _ hm h)
    ·exact q4 p hp
 ·rcases hp.mem S.nodup h1 with ⟨_,e⟩|⟨_,m1⟩
  ·cases e
  ·rcases hp.mem S.nodup h2 with ⟨_,e⟩|⟨_,m2⟩
   ·cases e
   ·exact S.owns _ _ _ _ _ _ _ m1 m2
 ·obtain ⟨q1,c,v,q2,q3,q4,q5⟩:=S.fars p hp
  exact ⟨q1,c,v,q2,q3,q4,q5.mono hsub⟩
theorem dK {sts:List Stmt} {x:Str} {a:Addr} {ds:List Dat} (h:Has ρ x (.own a ds)) (hp:Put x (some (.val (.list ds))) ρ ρ') (k:cD W C n ρ' sts P):cD W C n ρ sts P:=fun A s g E R S=>by
 obtain ⟨g',hq⟩:=S.freeze h.mem hp; have hg:=hq.1; have S':=hq.2
 exact OL hg (k A s g' E R S')
noncomputable def N8:Dat->Prop
 | .tuple _=>False
 | .list _=>False
 | _=>True
theorem IY {g g':Gh} {v:Value} {d:Dat} (h:DatIn g v d) (hf:N8 d):DatIn g' v d:=by
 cases h<;>first|exact hf.elim|constructor
theorem gD {e:Expr} {d:Dat} {x:Str} {a:Addr} {ds:List Dat} (h:Has ρ x (.own a ds)) (hp:Put x (some (.val (.list ds))) ρ ρ') (k:Ev W C n ρ' e d) (hf:N8 d):Ev W C n ρ e d:=fun A s g E R S=>by
 obtain ⟨g',hq⟩:=S.freeze h.mem hp; have hg:=hq.1; have S':=hq.2
 refine wpAny_mono (k A s g' E R S') (fun v s' ⟨g'',x₁,hM⟩=>⟨g,?_,IY hM hf⟩) fun _ _ e=>e
 exact ⟨x₁.keep,x₁.old,fun _ h=>h,fun p hp=>x₁.ok p (x₁.sub p (hg p hp)),fun _ h=>.inl h,x₁.os,x₁.bare,x₁.tabs⟩
theorem wY {e:Expr} {b:Bool} {x:Str} {a:Addr} {ds:List Dat} (h:Has ρ x (.own a ds)) (hp:Put x (some (.val (.list ds))) ρ ρ') (k:sH W C n ρ' e b):sH W C n ρ e b:=fun A s g E R S=>by
 obtain ⟨g',hq⟩:=S.freeze h.mem hp; have hg:=hq.1; have S':=hq.2
 refine wpAny_mono (k A s g' E R S') (fun v s' ⟨e,g'',x₁⟩=>⟨e,g,?_⟩) fun _ _ e=>e
 exact ⟨x₁.keep,x₁.old,fun _ h=>h,fun p hp=>x₁.ok p (x₁.sub p (hg p hp)),fun _ h=>.inl h,x₁.os,x₁.bare,x₁.tabs⟩
theorem St.turn {s:Shared} {g:Gh} (S:St W C ρ s g) {x:Str} {a:Addr} {kk:Kd} {ds ds':List Dat} (h:(x,some (.ownK a kk ds))∈ρ) (hp:Put x (some (.ownK a kk ds')) ρ ρ') {h':Heap} {tk:Tok} {vs:List Value} {k:Nat}
  (ha:h'.get? a=some (cV kk vs.toArray k)) (hd:DatAll g vs ds') (hs:Heap.ExtBut a s.heap h'):St W C ρ' { s with heap:=h',toks:=tk } g:=by
 revert S h hp ha hd hs;revert W C ρ ρ' s g x a kk ds ds' h' tk vs k;refine no_implicit_lambda%(hK10 ?_);generalize (HK10 _).1=W,(HK10 _).2.1=C,(HK10 _).2.2.1=ρ,(HK10 _).2.2.2.1=ρ',(HK10 _).2.2.2.2.1=s,(HK10 _).2.2.2.2.2.1=g,(HK10 _).2.2.2.2.2.2.1=x,(HK10 _).2.2.2.2.2.2.2.1=a,(HK10 _).2.2.2.2.2.2.2.2.1=kk,(HK10 _).2.2.2.2.2.2.2.2.2=ds;refine no_implicit_lambda%(hK5 ?_);generalize (HK5 _).1=ds',(HK5 _).2.1=h',(HK5 _).2.2.1=tk,(HK5 _).2.2.2.1=vs,(HK5 _).2.2.2.2=k;intro S h hp ha hd hs
 obtain ⟨hv,⟨vs0,k₀,ha0,hd0⟩,hg,hl,hkk⟩:=S.vars _ _ h
 revert vs0 k₀;refine no_implicit_lambda%(hK2 ?_);generalize (HK2 _).1=vs0,(HK2 _).2=k₀;intro ha0 hd0
 have hcell:∀c u,s.heap.IsCell c u->c≠a:=fun c u ⟨o,e,hdat⟩=>by
  rintro rfl
  rw [ha0] at e; cases e; rw [a6] at hdat; cases hdat
 have hL:C.env.locals≠a:=by
  obtain ⟨m,o,es,k',e,hdat,_⟩:=S.ns
  intro z
  rw [z,ha0] at e; cases e; rw [a6] at hdat; cases hdat
 have hh:∀y v,eT C.env s.heap y v->eT C.env h' y v:=fun y v H=>lZ hs hL (fun c u _ q=>hcell c u q) H
 refine S.own_turn (ρ':=ρ') hl hg hs (let ⟨m,hn⟩:=S.ns; ⟨m,hn.at' fun o e=>hs _ _ hL e⟩) (fun y c h1 h2 h3=>?_) hp.names (fun y b hb=>?_) fun y z b k1 k2 es fs h1 h2=>?_
 ·obtain ⟨⟨u,hu⟩,_⟩:=S.cells y c h1 h2 h3
  have:=hcell _ _ hu
  obtain ⟨o,hq⟩:=hu; have e:=hq.1; have hdat:=hq.2
  exact ⟨u,o,hs c _ this e,hdat⟩
 ·rcases hp.mem S.nodup hb with ⟨rfl,e⟩|⟨hne,hm⟩
  ·cases e
   exact ⟨hh _ _ hv,⟨vs,k,ha,hd⟩,hg,hl,hkk⟩
  ·refine pD hs (hh y) ?_ (S.vars y b hm)
   rintro k3 es rfl
   exact hne (S.owns _ _ _ _ _ _ _ hm h)
 ·rcases hp.mem S.nodup h1 with ⟨rfl,e⟩|⟨n1,m1⟩
  ·cases e
   rcases hp.mem S.nodup h2 with ⟨rfl,_⟩|⟨_,m2⟩
   ·rfl
   ·exact S.owns _ _ _ _ _ _ _ h m2
  ·rcases hp.mem S.nodup h2 with ⟨rfl,e⟩|⟨_,m2⟩
   ·cases e; exact S.owns _ _ _ _ _ _ _ m1 h
   ·exact S.owns _ _ _ _ _ _ _ m1 m2
end
section
variable {W:Wd} {C:Cx} {n:Nat} {ρ ρ':aW} {P P':Fl->aW->Prop}
noncomputable def iN (o:Obj):Prop:=∃T vs,o.cls=.type T/\o.data=.fields vs/\(T = "list_iterator" \/ T = "tuple_iterator" \/ T = "range_iterator")
structure IterAt (W:Wd) (A:Around) (s₂:Shared) (g':Gh) (I:Addr) (ds:List Dat):Prop where
 ok:∃fp Pv Stt,Walks W.prog W.w A I fp [I] ds.length Pv Stt/\Stt 0 s₂.heap/\(∀b∈fp,b=I\/∃o,(b,o)∈g')/\(∀i v (hi:i<ds.length),Pv i v->DatIn g' v ds[i])/\(∀i h,Stt i h->∃o,h.get? I=some o/\iN o)
noncomputable def J9 (W:Wd) (C:Cx) (n:Nat) (ρ:aW) (e:Expr) (ds:List Dat):Prop:=
 ∀(A:Around) (s:Shared) (g:Gh) (E:Value->Shared->Prop),Room n A->St W C ρ s g ->
  wpAny (model W.prog W.w) A (eval e C.env) (fun x s₁=>wpAny (model W.prog W.w) A (pyIter x) (fun it s₂ =>
   ∃g' I,it=.ref I/\Ext W s g s₂ g'/\s.heap.get? I=none/\(∀p∈g',p.1≠I)/\IterAt W A s₂ g' I ds) E s₁) E s
theorem cK {g:Gh} {s:Shared} (B:Base W s g) {a:Addr} {vs:List Value} {k:Nat} (h:(a,listOf vs.toArray k)∈g):s.heap.IsList a vs.toArray:=⟨_,(B.gok _ h).1,rfl,k,rfl⟩
theorem qD {g:Gh} {s:Shared} (B:Base W s g) {a:Addr} {vs:List Value} {k:Nat} (h:(a,({ cls:=.type "tuple",data:=.seq vs.toArray k }:Obj))∈g):s.heap.IsTuple a vs.toArray:=⟨_,(B.gok _ h).1,rfl,k,rfl⟩
theorem mJ {h:Heap} {p:Addr×Obj} (e:h.get? p.1=some p.2):p.1≠h.objs.size:=Nat.ne_of_lt (Heap.lt_size e)
theorem bG {e:Expr} {ds:List Dat} (h:Ev W C n ρ e (.list ds)):J9 W C n ρ e ds:=fun A s g E R S=>by
 revert h R S;revert W C n ρ e ds A s g E;refine no_implicit_lambda%(hK10 ?_);generalize (HK10 _).1=W,(HK10 _).2.1=C,(HK10 _).2.2.1=n,(HK10 _).2.2.2.1=ρ,(HK10 _).2.2.2.2.1=e,(HK10 _).2.2.2.2.2.1=ds,(HK10 _).2.2.2.2.2.2.1=A,(HK10 _).2.2.2.2.2.2.2.1=s,(HK10 _).2.2.2.2.2.2.2.2.1=g,(HK10 _).2.2.2.2.2.2.2.2.2=E;intro h R S
 refine go3 (h A s g E R S) (fun v s₁ g₁ x₁ hM=>?_)
 revert v s₁ g₁;refine no_implicit_lambda%(hK3 ?_);generalize (HK3 _).1=v,(HK3 _).2.1=s₁,(HK3 _).2.2=g₁;intro x₁ hM
 cases hM with
 | @list a vs k _ hm hd =>
  revert a vs k;refine no_implicit_lambda%(hK3 ?_);generalize (HK3 _).1=a,(HK3 _).2.1=vs,(HK3 _).2.2=k;intro hm hd
  have B:=(S.step x₁).base
  have hl:=cK B hm
  have hne:a≠s₁.heap.objs.size:=mJ (B.gok _ hm).1
  refine wpAny_pyIter_list hl ?_
  have y:Ext W s₁ g₁ { s₁ with heap:=s₁.heap.push { cls:=.type "list_iterator",data:=.fields #[.ref a,.int 0 0] } } g₁:=Ext.of_keeps (tk:=s₁.toks) B.gok fun b o e=>Heap.get?_push_of_some _ e
  refine ⟨g₁,_,rfl,x₁.trans y,?_,fun p hp=>mJ (B.gok p hp).1,?_⟩
  ·cases q:s.heap.get? s₁.heap.objs.size with
   | none=>rfl
   | some o =>
    have:=x₁.keep _ _ q (B.wok.not_tb B.old (get?_size _))
    rw [get?_size] at this; cases this
  ·have hlen:vs.toArray.size=ds.length:=by rw [List.size_toArray,hd.length]
   have Wk:=Walks.list (prog:=W.prog) (w:=W.w) R.handled s₁.heap.objs.size a hne vs.toArray
   rw [hlen] at Wk
   refine ⟨_,_,_,Wk,⟨⟨_,Heap.get?_push_size _ rfl,rfl,rfl⟩,hl.at fun o e=>Heap.get?_push_of_some _ e⟩,?_,?_,?_⟩
   ·intro b hb
    rcases List.mem_cons.mp hb with rfl|hb
    ·exact .inl rfl
    ·exact .inr ⟨_,(List.mem_singleton.mp hb)▸hm⟩
   ·intro i v hi hv
    obtain ⟨v',e,hD⟩:=hd.get hi
    have:vs[i]? = some v:=by simpa using hv
    rw [this] at e; cases e; exact hD
   ·rintro i h ⟨⟨o,e,hc,hdat⟩,_⟩
    exact ⟨o,e,_,_,hc,hdat,.inl rfl⟩
noncomputable def cG (a c:Int) (k:Nat):List Dat:=(List.range k).map fun (i:Nat)=>Dat.int (a+(i:Int)*c)
theorem cZ {a c:Int} {k i:Nat} (h:i<(cG a c k).length):(cG a c k)[i]=.int (a+i*c):=by
 simp only [cG,List.getElem_map,List.getElem_range]
theorem bU (a c:Int) (k:Nat):(cG a c k).length=k:=by simp [cG]
theorem zG {A:Around} {s s₁:Shared} {g g₁:Gh} {E:Value->Shared->Prop} {r:Addr} {a b c:Int} {t u v:Tok} {k:Nat} (hh:A.handled=none) (S:Base W s g) (x₁:Ext W s g s₁ g₁)
  (hr:IsRange s₁.heap r a b c t u v) (hsm:Builtin.Range.small a b c=true) (hk:Builtin.Range.rangeSize a b c=(k:Int)) :
  wpAny (model W.prog W.w) A (pyIter (.ref r)) (fun it s₂=>∃g' I,it=.ref I/\Ext W s g s₂ g'/\s.heap.get? I=none/\(∀p∈g',p.1≠I)/\IterAt W A s₂ g' I (cG a c k)) E s₁:=by
 have B:=S.step x₁
 refine wpAny_pyIter_range hr hsm ?_
 have y:Ext W s₁ g₁ { s₁ with heap:=s₁.heap.push { cls:=.type "range_iterator",data:=.fields #[rawInt a,rawInt (Builtin.Range.rangeSize a b c),rawInt c] } } g₁:=Ext.of_keeps (tk:=s₁.toks) B.gok fun b o e=>Heap.get?_push_of_some _ e
 refine ⟨g₁,_,rfl,x₁.trans y,?_,fun p hp=>mJ (B.gok p hp).1,?_⟩
 ·cases q:s.heap.get? s₁.heap.objs.size with
  | none=>rfl
  | some o =>
   have:=x₁.keep _ _ q (B.wok.not_tb B.old (get?_size _))
   rw [get?_size] at this; cases this
 ·refine ⟨_,_,_,by rw [bU]; exact Walks.range (prog:=W.prog) (w:=W.w) hh s₁.heap.objs.size a c k,?_,?_,?_,?_⟩
  ·show IsRangeIter _ _ _ _ _
   rw [hk]
   have:=Heap.get?_push_size s₁.heap (o:={ cls:=.type "range_iterator",data:=.fields #[rawInt a,rawInt (k:Int),rawInt c] }) rfl
   simpa using this
  ·intro b hb
   exact .inl (List.mem_singleton.mp hb)
  ·rintro i v hi ⟨t,rfl⟩
   rw [cZ]
   exact .int _ _
  ·intro i h e
   exact ⟨_,e,_,_,rfl,rfl,.inr (.inr rfl)⟩
theorem x2 {A:Around} {s:Shared} {E:Value->Shared->Prop} {target:Expr} {I:Addr} {v:Value} {o:Obj} {Q:Unit->Shared->Prop} {M:Model} (ho:s.heap.get? I=some o) (hi:iN o) (h:Q () s) :
  wpAny M A (letOwnedTupleGo target (.ref I) v) Q E s:=by
 have key:∀a,wpAny M A (do
   let o←load I
   match o.cls,o.data with
   | .type n,.fields vs =>
    if ["enumerate","zip","dict_itemiterator","dict_reverseitemiterator","odict_iterator","itertools.zip_longest","itertools.pairwise"].contains n&&vs[0]? == some (rawInt a) then
     rule "for.unpacks-the-owned-tuple"
     updateField I 0 .none
   | _,_=>pure ()) Q E s:=by
  intro a
  refine wpAny_bind (wpAny_load ho ?_)
  obtain ⟨T,vs,hc,hd,hT⟩:=hi
  rw [hc,hd]
  have:(["enumerate","zip","dict_itemiterator","dict_reverseitemiterator","odict_iterator","itertools.zip_longest","itertools.pairwise"].contains T)=false:=by
   rcases hT with rfl|rfl|rfl<;>decide
  show wpAny M A (if (["enumerate","zip","dict_itemiterator","dict_reverseitemiterator","odict_iterator","itertools.zip_longest","itertools.pairwise"].contains T&&vs[0]? == some (rawInt a))=true then _ else _) Q E s
  rw [this,Bool.false_and,if_neg (by decide)]
  exact wpAny_pure h
 cases target<;>first
  | exact wpAny_pure h
  | (cases v<;>first|exact wpAny_pure h|exact key _)
noncomputable def DW (W:Wd) (C:Cx) (n:Nat) (t:Expr) (d:Dat) (ρ ρ':aW):Prop:=
 ∀(A:Around) (s:Shared) (g:Gh) (E:Value->Shared->Prop) (v:Value),Room n A->St W C ρ s g->DatIn g v d ->
  wpAny (model W.prog W.w) A (assign t C.env v) (fun _ s'=>St W C ρ' s' g/\jG C.env.locals s s') E s
theorem aV {x:Str} {p:Pos} {d:Dat} (hp:Put x (some (.val d)) ρ ρ'):DW W C n (.Name x p) d ρ ρ':=fun A s g E v R S h =>
 wpAny_assign_Name (S.store hp h fun _ S' k=>⟨S',k⟩)
theorem fG {x y:Str} {p q pos:Pos} {k:Nat} {d e:Dat} {ρ₁:aW} (h1:Put x (some (.val d)) ρ ρ₁) (h2:Put y (some (.val e)) ρ₁ ρ'):DW W C n (.Tuple [.Name x p,.Name y q] k pos) (.tuple [d,e]) ρ ρ':=fun A s g E v R S h=>by
 revert h1 h2 R S h;revert W C n ρ ρ' x y p q pos k d e ρ₁ A s g E v;refine no_implicit_lambda%(hK10 ?_);generalize (HK10 _).1=W,(HK10 _).2.1=C,(HK10 _).2.2.1=n,(HK10 _).2.2.2.1=ρ,(HK10 _).2.2.2.2.1=ρ',(HK10 _).2.2.2.2.2.1=x,(HK10 _).2.2.2.2.2.2.1=y,(HK10 _).2.2.2.2.2.2.2.1=p,(HK10 _).2.2.2.2.2.2.2.2.1=q,(HK10 _).2.2.2.2.2.2.2.2.2=pos;refine no_implicit_lambda%(hK9 ?_);generalize (HK9 _).1=k,(HK9 _).2.1=d,(HK9 _).2.2.1=e,(HK9 _).2.2.2.1=ρ₁,(HK9 _).2.2.2.2.1=A,(HK9 _).2.2.2.2.2.1=s,(HK9 _).2.2.2.2.2.2.1=g,(HK9 _).2.2.2.2.2.2.2.1=E,(HK9 _).2.2.2.2.2.2.2.2=v;intro h1 h2 R S h
 cases h with
 | @tuple a vs k' _ hm hd =>
  cases hd with
  | cons hd1 r =>
   cases r with
   | cons hd2 r =>
    cases r
    refine assign_Tuple_tuple R.handled (qD S.base hm) rfl rfl fun h' hx=>?_
    have y:Ext W s g { s with heap:=h' } g:=Ext.of_keeps (tk:=s.toks) S.base.gok fun b o e=>hx b o (Nat.ne_of_lt (Heap.lt_size e)) e
    refine assignInOrder_cons (wpAny_assign_Name ((S.step y).store h1 hd1 fun s₁ S1 k₁=>?_))
    exact assignInOrder_cons (wpAny_assign_Name (S1.store h2 hd2 fun s₂ S2 k₂=>assignInOrder_nil ⟨S2,fun b o e h1 h2=>(k₁.trans k₂) b o (hx b o (Nat.ne_of_lt (Heap.lt_size e)) e) h1 h2⟩))
theorem St.join {s:Shared} {g:Gh} (S:St W C ρ s g) {I:Addr} {o:Obj} (ho:s.heap.get? I=some o) (hi:iN o) (h0:C.s0.heap.get? I=none):St W C ρ s ((I,o)::g):=by
 revert S ho hi h0;revert W C ρ s g I o;refine no_implicit_lambda%(hK7 ?_);generalize (HK7 _).1=W,(HK7 _).2.1=C,(HK7 _).2.2.1=ρ,(HK7 _).2.2.2.1=s,(HK7 _).2.2.2.2.1=g,(HK7 _).2.2.2.2.2.1=I,(HK7 _).2.2.2.2.2.2=o;intro S ho hi h0
 obtain ⟨T,us,_,hdat,_⟩:=hi
 have hsub:∀p∈g,p∈(I,o)::g:=fun p hp=>List.mem_cons_of_mem _ hp
 have hok:pE W ((I,o)::g) s.heap:=fun p hp=>by
  rcases List.mem_cons.mp hp with rfl|hp
  ·exact ⟨ho,S.base0.wok.not_tb S.base0.old h0⟩
  ·exact S.base.gok p hp
 refine ⟨⟨S.base.wok,hok,S.base.topk,S.base.old,S.base.bare,S.base.os,S.base.tabs⟩,S.base0,⟨S.ext.keep,S.ext.old,fun p hp=>hsub p (S.ext.sub p hp),hok,fun p hp=>?_,S.ext.os,S.ext.bare,S.ext.tabs⟩,S.kind,S.globals,S.builtins,S.low,S.ns,fun p hp=>?_,S.ex,fun y c h1 h2 h3=>⟨(S.cells y c h1 h2 h3).1,fun p hp=>?_⟩,S.apart,S.nodup,fun y b hb=>?_,S.owns,fun p hp=>?_⟩
 ·rcases List.mem_cons.mp hp with rfl|hp
  ·exact .inr h0
  ·exact S.ext.new p hp
 ·rcases List.mem_cons.mp hp with rfl|hp
  ·obtain ⟨m,o',es,k',e,hd,_⟩:=S.ns
   intro z
   have z:I=C.env.locals:=z
   rw [z] at ho
   rw [ho] at e; cases e; rw [hdat] at hd; cases hd
  ·exact S.lg p hp
 ·rcases List.mem_cons.mp hp with rfl|hp
  ·obtain ⟨⟨u,o',e,hd⟩,_⟩:=S.cells y c h1 h2 h3
   intro z
   have z:I=c:=z
   rw [z] at ho
   rw [ho] at e; cases e; rw [hdat] at hd; cases hd
  ·exact (S.cells y c h1 h2 h3).2 p hp
 ·have q:=S.vars y b hb
  cases b with
  | val d=>obtain ⟨v,hq⟩:=q; have q1:=hq.1; have q2:=hq.2; exact ⟨v,q1,q2.mono hsub⟩
  | raw v os=>exact ⟨q.1,fun p hp=>⟨hsub p (q.2 p hp).1,(q.2 p hp).2⟩⟩
  | ownK a' kk es =>
   obtain ⟨q1,⟨us,k',q2,q3⟩,q4,q5,q6⟩:=q
   refine ⟨q1,⟨us,k',q2,q3.mono hsub⟩,fun p hp=>?_,q5,fun c d o e=>⟨hsub _ (q6 c d o e).1,(q6 c d o e).2⟩⟩
   rcases List.mem_cons.mp hp with rfl|hp
   ·intro z
    have z:I=a':=z
    rw [z] at ho
    rw [ho] at q2; cases q2; rw [a6] at hdat; cases hdat
   ·exact q4 p hp
 ·obtain ⟨q1,c,v,hq⟩:=S.fars p hp; have q2:=hq.1; have q3:=hq.2.1; have q4:=hq.2.2.1; have q5:=hq.2.2.2
  exact ⟨q1,c,v,q2,q3,q4,q5.mono hsub⟩
theorem rP {g g':Gh} (hs:∀p∈g,(∃vs k,p.2.data=.seq vs k)->p∈g') {v:Value} {d:Dat} (h:DatIn g v d):DatIn g' v d:=
 DatIn.rec (motive_1:=fun v d _=>DatIn g' v d) (motive_2:=fun vs ds _=>DatAll g' vs ds) .none .bool .int .str .bytes (fun h _ r=>.tuple (hs _ h ⟨_,_,rfl⟩) r) (fun h _ r=>.list (hs _ h ⟨_,_,rfl⟩) r) .nil (fun _ _ a b=>.cons a b) h
theorem oT {g g':Gh} (hs:∀p∈g,(∃vs k,p.2.data=.seq vs k)->p∈g') {vs:List Value} {ds:List Dat} (h:DatAll g vs ds):DatAll g' vs ds:=
 DatAll.rec (motive_1:=fun v d _=>DatIn g' v d) (motive_2:=fun vs ds _=>DatAll g' vs ds) .none .bool .int .str .bytes (fun h _ r=>.tuple (hs _ h ⟨_,_,rfl⟩) r) (fun h _ r=>.list (hs _ h ⟨_,_,rfl⟩) r) .nil (fun _ _ a b=>.cons a b) h
theorem St.part {s:Shared} {g:Gh} (S:St W C ρ s g) {I:Addr} {o:Obj} (ho:s.heap.get? I=some o) (hi:iN o) (h0:C.s0.heap.get? I=none):St W C ρ s (g.filter fun p=>decide (p.1≠I)):=by
 revert S ho hi h0;revert W C ρ s g I o;refine no_implicit_lambda%(hK7 ?_);generalize (HK7 _).1=W,(HK7 _).2.1=C,(HK7 _).2.2.1=ρ,(HK7 _).2.2.2.1=s,(HK7 _).2.2.2.2.1=g,(HK7 _).2.2.2.2.2.1=I,(HK7 _).2.2.2.2.2.2=o;intro S ho hi h0
 obtain ⟨T,us,hcls,hdat,hT⟩:=hi
 have hsub:∀p∈g.filter fun p=>decide (p.1≠I),p∈g:=fun p hp=>(List.mem_filter.mp hp).1
 have hless:∀p∈g,(∃vs k,p.2.data=.seq vs k)->p∈g.filter fun p=>decide (p.1≠I):=fun p hp ⟨vs,k,hd⟩=>by
  refine List.mem_filter.mpr ⟨hp,?_⟩
  rw [decide_eq_true_eq]
  intro z
  have e:=(S.base.gok p hp).1
  rw [z,ho] at e
  cases e
  rw [hdat] at hd; cases hd
 have hnot:∀p∈g,sP p.2=true->p∈g.filter fun p=>decide (p.1≠I):=fun p hp hn=>by
  refine List.mem_filter.mpr ⟨hp,?_⟩
  rw [decide_eq_true_eq]
  intro z
  have e:=(S.base.gok p hp).1
  rw [z,ho] at e
  cases e
  unfold sP at hn
  rw [hcls] at hn
  rcases hT with rfl|rfl|rfl<;>revert hn<;>decide
 have hok:pE W (g.filter fun p=>decide (p.1≠I)) s.heap:=fun p hp=>S.base.gok p (hsub p hp)
 refine ⟨⟨S.base.wok,hok,S.base.topk,S.base.old,S.base.bare,S.base.os,S.base.tabs⟩,S.base0,⟨S.ext.keep,S.ext.old,fun p hp=>?_,hok,fun p hp=>S.ext.new p (hsub p hp),S.ext.os,S.ext.bare,S.ext.tabs⟩,S.kind,S.globals,S.builtins,S.low,S.ns,fun p hp=>S.lg p (hsub p hp),S.ex,fun y c h1 h2 h3=>⟨(S.cells y c h1 h2 h3).1,fun p hp=>(S.cells y c h1 h2 h3).2 p (hsub p hp)⟩,S.apart,S.nodup,fun y b hb=>?_,S.owns,fun p hp=>?_⟩
 ·refine List.mem_filter.mpr ⟨S.ext.sub p hp,?_⟩
  rw [decide_eq_true_eq]
  intro z
  have:=(S.base0.gok p hp).1
  rw [z,h0] at this; cases this
 ·have q:=S.vars y b hb
  cases b with
  | val d=>obtain ⟨v,hq⟩:=q; have q1:=hq.1; have q2:=hq.2; exact ⟨v,q1,rP hless q2⟩
  | raw v os=>exact ⟨q.1,fun p hp=>⟨hnot p (q.2 p hp).1 (q.2 p hp).2,(q.2 p hp).2⟩⟩
  | ownK a' kk es =>
   revert T us y a' kk es;refine no_implicit_lambda%(hK2 ?_);generalize (HK2 _).1=T,(HK2 _).2=us;intro hcls hdat hT;refine no_implicit_lambda%(hK4 ?_);generalize (HK4 _).1=y,(HK4 _).2.1=a',(HK4 _).2.2.1=kk,(HK4 _).2.2.2=es;intro hb q
   obtain ⟨q1,⟨us,k',q2,q3⟩,q4,q5,q6⟩:=q
   exact ⟨q1,⟨us,k',q2,oT hless q3⟩,fun p hp=>q4 p (hsub p hp),q5,fun c d o e=>⟨hnot _ (q6 c d o e).1 (q6 c d o e).2,(q6 c d o e).2⟩⟩
 ·obtain ⟨q1,c,v,hq⟩:=S.fars p hp; have q2:=hq.1; have q3:=hq.2.1; have q4:=hq.2.2.1; have q5:=hq.2.2.2
  exact ⟨q1,c,v,q2,q3,q4,rP hless q5⟩
theorem St.other {s:Shared} {g:Gh} (S:St W C ρ s g) {I:Addr} {o:Obj} {h':Heap} {tk:Tok} (h0:C.s0.heap.get? I=none) (hg:∀p∈g,p.1≠I) (ho:s.heap.get? I=some o) (hi:iN o) (hs:Heap.ExtBut I s.heap h'):St W C ρ { s with heap:=h',toks:=tk } g:=by
 obtain ⟨T,us,_,hdat,_⟩:=hi
 have hL:C.env.locals≠I:=by
  obtain ⟨m,o',es,k',e,hd,_⟩:=S.ns
  rintro z
  rw [z,ho] at e; cases e; rw [hdat] at hd; cases hd
 have hC:∀c u,s.heap.IsCell c u->c≠I:=fun c u ⟨o',e,hd⟩=>by
  rintro rfl
  rw [ho] at e; cases e; rw [hdat] at hd; cases hd
 refine S.aside h0 hg hL (fun x c u _ q=>hC c u q) (fun x k ds hm=>?_) hs
 obtain ⟨_,⟨us,k',q2,_⟩,_⟩:=S.vars x _ hm
 rw [ho] at q2; cases q2; rw [a6] at hdat; cases hdat
theorem dU {t:Expr} {iter:Expr} {body:List Stmt} {pos:Pos} {ds:List Dat} (hit:J9 W C n ρ iter ds) (I:Nat->aW->Prop) (h0:I 0 ρ)
  (turn:∀i (hi:i<ds.length) ρ,I i ρ->∃ρ₁,DW W C n t ds[i] ρ ρ₁/\cD W C n ρ₁ body fun fl r=>match fl with | .next=>I (i+1) r | .cont=>I (i+1) r | .brk=>P .next r | .ret d=>P (.ret d) r)
  (done:∀ρ,I ds.length ρ->P .next ρ) (hs:autoParam (∀env x,foldedSetIterable iter env x=pure x) Mine.eM._auto_1):Ex W C n ρ (.For t iter body [] pos) P:=fun A s g E R S=>by
 revert hit h0 turn done hs R S;revert W C n ρ P t iter body pos ds I A s g E;refine no_implicit_lambda%(hK10 ?_);generalize (HK10 _).1=W,(HK10 _).2.1=C,(HK10 _).2.2.1=n,(HK10 _).2.2.2.1=ρ,(HK10 _).2.2.2.2.1=P,(HK10 _).2.2.2.2.2.1=t,(HK10 _).2.2.2.2.2.2.1=iter,(HK10 _).2.2.2.2.2.2.2.1=body,(HK10 _).2.2.2.2.2.2.2.2.1=pos,(HK10 _).2.2.2.2.2.2.2.2.2=ds;refine no_implicit_lambda%(hK5 ?_);generalize (HK5 _).1=I,(HK5 _).2.1=A,(HK5 _).2.2.1=s,(HK5 _).2.2.2.1=g,(HK5 _).2.2.2.2=E;intro hit h0 turn done hs R S
 refine wpAny_For (wpAny_mono (hit A s g E R S) (fun x s₁ hM=>wpAny_mono hM (fun it s₂ hU=>?_) fun _ _ e=>e) fun _ _ e=>e) (hs _)
 obtain ⟨g',J,rfl,x₂,hJ,hgJ,fp,Pv,Stt,Wk,st0,hfp,hPv,hobj⟩:=hU
 revert x s₁ s₂ g' J fp Pv Stt;refine no_implicit_lambda%(hK2 ?_);generalize (HK2 _).1=x,(HK2 _).2=s₁;intro hM;refine no_implicit_lambda%(hK3 ?_);generalize (HK3 _).1=s₂,(HK3 _).2.1=g',(HK3 _).2.2=J;intro x₂ hJ hgJ;refine no_implicit_lambda%(hK3 ?_);generalize (HK3 _).1=fp,(HK3 _).2.1=Pv,(HK3 _).2.2=Stt;intro Wk st0 hfp hPv hobj
 have S2:=S.step x₂
 have hJ0:C.s0.heap.get? J=none:=by
  cases q:C.s0.heap.get? J with
  | none=>rfl
  | some o =>
   have:=S.ext.keep _ _ q (S.base.wok.not_tb S.base.old hJ)
   rw [hJ] at this; cases this
 refine codeAny_forLoop_any (fun k s=>∃i ρ₀ g₀,k=ds.length+1-i/\i<=ds.length/\I i ρ₀/\St W C ρ₀ s g₀/\(∀p∈g',p∈g₀)/\(∀p∈g₀,p.1≠J)/\Stt i s.heap) ?_ (ds.length+1) ⟨0,ρ,g',rfl,Nat.zero_le _,h0,S2,fun _ h=>h,hgJ,st0⟩
 rintro k s₃ ⟨i,ρ₀,g₀,rfl,hi,hI,S3,hg,hgj,st⟩
 revert s₃ i ρ₀ g₀;refine no_implicit_lambda%(hK4 ?_);generalize (HK4 _).1=s₃,(HK4 _).2.1=i,(HK4 _).2.2.1=ρ₀,(HK4 _).2.2.2=g₀;intro hi hI S3 hg hgj st
 by_cases hlt:i<ds.length
 ·obtain ⟨o,hq⟩:=hobj i _ st; have ho:=hq.1; have hio:=hq.2
  refine Wk.item i s₃ _ _ hlt st fun v h' tk hv st' hk=>?_
  have hk':Heap.ExtBut J s₃.heap h':=fun b o hb e=>hk b o (by simpa using hb) e
  have S4:=S3.other (tk:=tk) hJ0 hgj ho hio hk'
  obtain ⟨o',hq⟩:=hobj _ _ st'; have ho':=hq.1; have hio':=hq.2
  revert o v h' tk o';refine no_implicit_lambda%(hK ?_);generalize HK _=o;intro hq ho hio;refine no_implicit_lambda%(hK3 ?_);generalize (HK3 _).1=v,(HK3 _).2.1=h',(HK3 _).2.2=tk;intro hv st' hk hk' S4;refine no_implicit_lambda%(hK ?_);generalize HK _=o';intro hq ho' hio'
  refine x2 (s:={ s₃ with heap:=h',toks:=tk }) ho' hio' ?_
  have S5:=S4.join (s:={ s₃ with heap:=h',toks:=tk }) ho' hio' hJ0
  obtain ⟨ρ₁,hq⟩:=turn i hlt ρ₀ hI; have hb:=hq.1; have hbody:=hq.2
  have hd:DatIn ((J,o')::g₀) v ds[i]:=(hPv i v hlt hv).mono fun p hp=>List.mem_cons_of_mem _ (hg p hp)
  refine wpAny_mono (hb A _ _ _ v R S5 hd) (fun _ s₆ ⟨S6,_⟩=>?_) fun _ _ e=>e
  refine wpAny_mono (hbody A s₆ _ _ R S6) (fun f s₇ hf=>?_) fun _ _ e=>e
  revert ρ₁ s₆ f s₇;refine no_implicit_lambda%(hK ?_);generalize HK _=ρ₁;intro hq hb hbody;refine no_implicit_lambda%(hK ?_);generalize HK _=s₆;intro _ S6 _;refine no_implicit_lambda%(hK2 ?_);generalize (HK2 _).1=f,(HK2 _).2=s₇;intro hf
  obtain ⟨fl,ρ',g₇,hp,S7,hg7,hfl⟩:=hf
  have e7:s₇.heap.get? J=some o':=(S7.base.gok _ (hg7 _ List.mem_cons_self)).1
  have S8:=S7.part e7 hio' hJ0
  have hgg:∀p∈g₀,p∈g₇.filter fun p=>decide (p.1≠J):=fun p hp=>List.mem_filter.mpr ⟨hg7 p (List.mem_cons_of_mem _ hp),by rw [decide_eq_true_eq]; exact hgj p hp⟩
  have again:(I (i+1) ρ')->∃m,m<ds.length+1-i/\∃i ρ₀ g₀,m=ds.length+1-i/\i<=ds.length/\I i ρ₀/\St W C ρ₀ s₇ g₀/\(∀p∈g',p∈g₀)/\(∀p∈g₀,p.1≠J)/\Stt i s₇.heap:=fun hI' =>
   ⟨ds.length+1-(i+1),RA hlt,i+1,ρ',_,rfl,hlt,hI',S8,fun p hp=>hgg p (hg p hp),fun p hp=>by have:=(List.mem_filter.mp hp).2; rwa [decide_eq_true_eq] at this,
    Wk.frame _ _ _ st' fun b hb o e=>by
     rcases hfp b hb with rfl|⟨o₂,hm⟩
     ·rw [ho'] at e; cases e; exact e7
     ·have q1:=(S4.base.gok _ (hg _ hm)).1
      have q2:=(S7.base.gok _ (hg7 _ (List.mem_cons_of_mem _ (hg _ hm)))).1
      have q1:h'.get? b=some o₂:=q1
      rw [q1] at e; cases e; exact q2⟩
  have out:∀p∈g,p∈g₇:=fun p hp=>hg7 p (List.mem_cons_of_mem _ (hg p (x₂.sub p hp)))
  cases f<;>cases fl<;>first
   | exact hfl.elim
   | exact again hp
   | exact ⟨.next,ρ',g₇,hp,S7,out,trivial⟩
   | exact ⟨.ret _,ρ',g₇,hp,S7,out,hfl⟩
 ·have hi':i=ds.length:=by lia
  subst hi'
  obtain ⟨o,hq⟩:=hobj _ _ st; have ho:=hq.1; have hio:=hq.2
  refine Wk.done s₃ _ _ st fun h' tk hk=>?_
  have S4:=S3.other (tk:=tk) hJ0 hgj ho hio fun b o hb e=>hk b o (by simpa using hb) e
  exact wpAny_execs_nil ⟨.next,ρ₀,g₀,done _ hI,S4,fun p hp=>hg p (x₂.sub p hp),trivial⟩
end
section
variable {W:Wd} {C:Cx} {n:Nat} {ρ ρ':aW}
inductive Tests (W:Wd) (C:Cx) (n:Nat) (ρ:aW):List Expr->Bool->Prop
 | nil:Tests W C n ρ [] true
 | one {c b}:sH W C n ρ c b->Tests W C n ρ [c] b
theorem FJ {ifs:List Expr} {b:Bool} (h:Tests W C n ρ ifs b) {A:Around} {s:Shared} {g:Gh} {E:Value->Shared->Prop} (R:Room n A) (S:St W C ρ s g) :
  wpAny (model W.prog W.w) A (forIn ifs true fun c r=>if r=true then do let ok←isTrue c C.env (eval c C.env); pure (ForInStep.yield ok) else pure (ForInStep.yield r)) (fun b' s'=>b'=b/\∃g',Ext W s g s' g') E s:=by
 cases h with
 | nil=>exact wpAny_tests_nil ⟨rfl,g,Ext.refl S.gok⟩
 | one h=>exact wpAny_tests_one (h A s g E R S)
structure CS (W:Wd) (C:Cx) (D:Addr) (ρ:aW) (ys:List Dat) (s:Shared) (g:Gh):Prop where
 st:St W C ρ s g
 acc:∃vs k,s.heap.get? D=some (listOf vs.toArray k)/\DatAll g vs ys
 off:∀p∈g,p.1≠D
 low:C.s0.heap.get? D=none
 no:∀x a k ds,(x,some (Bd.ownK a k ds))∉ρ
theorem CS.step {D:Addr} {ys:List Dat} {s s':Shared} {g g':Gh} (K:CS W C D ρ ys s g) (x:Ext W s g s' g'):CS W C D ρ ys s' g':=by
 obtain ⟨vs,k,e,hd⟩:=K.acc
 exact ⟨K.st.step x,⟨vs,k,x.keep _ _ e (K.st.base0.wok.not_tb K.st.base0.old K.low),hd.mono x.sub⟩,fun p hp=>(x.new p hp).elim (fun h=>K.off p h) fun h=>u0 e h,K.low,K.no⟩
theorem CS.other {D:Addr} {ys:List Dat} {s:Shared} {g:Gh} (K:CS W C D ρ ys s g) {J:Addr} {o:Obj} {h':Heap} {tk:Tok} (h0:C.s0.heap.get? J=none) (hg:∀p∈g,p.1≠J) (ho:s.heap.get? J=some o) (hi:iN o) (hs:Heap.ExtBut J s.heap h') :
  CS W C D ρ ys { s with heap:=h',toks:=tk } g:=by
 obtain ⟨vs,k,e,hd⟩:=K.acc
 refine ⟨K.st.other h0 hg ho hi hs,⟨vs,k,hs D _ ?_ e,hd⟩,K.off,K.low,K.no⟩
 rintro rfl
 obtain ⟨T,us,_,hdat,_⟩:=hi
 rw [e] at ho; cases ho; cases hdat
theorem CS.join {D:Addr} {ys:List Dat} {s:Shared} {g:Gh} (K:CS W C D ρ ys s g) {J:Addr} {o:Obj} (ho:s.heap.get? J=some o) (hi:iN o) (h0:C.s0.heap.get? J=none):CS W C D ρ ys s ((J,o)::g):=by
 obtain ⟨vs,k,e,hd⟩:=K.acc
 refine ⟨K.st.join ho hi h0,⟨vs,k,e,hd.mono fun p hp=>List.mem_cons_of_mem _ hp⟩,fun p hp=>?_,K.low,K.no⟩
 rcases List.mem_cons.mp hp with rfl|hp
 ·intro z
  have z:J=D:=z
  obtain ⟨T,us,_,hdat,_⟩:=hi
  rw [z,e] at ho; cases ho; exact nomatch hdat
 ·exact K.off p hp
theorem CS.part {D:Addr} {ys:List Dat} {s:Shared} {g:Gh} (K:CS W C D ρ ys s g) {J:Addr} {o:Obj} (ho:s.heap.get? J=some o) (hi:iN o) (h0:C.s0.heap.get? J=none):CS W C D ρ ys s (g.filter fun p=>decide (p.1≠J)):=by
 obtain ⟨vs,k,e,hd⟩:=K.acc
 refine ⟨K.st.part ho hi h0,⟨vs,k,e,oT (fun p hp hq=>?_) hd⟩,fun p hp=>K.off p (List.mem_filter.mp hp).1,K.low,K.no⟩
 obtain ⟨us,j,hdat⟩:=hq
 refine List.mem_filter.mpr ⟨hp,?_⟩
 rw [decide_eq_true_eq]
 intro z
 have q:=(K.st.base.gok p hp).1
 obtain ⟨T,us',hq⟩:=hi; have hd':=hq.2.1
 rw [z,ho] at q; cases q
 rw [hd'] at hdat; cases hdat
theorem CS.bind {D:Addr} {ys:List Dat} {s s':Shared} {g:Gh} (K:CS W C D ρ ys s g) (S':St W C ρ' s' g) (kp:jG C.env.locals s s') (hno:∀x a k ds,(x,some (Bd.ownK a k ds))∉ρ'):CS W C D ρ' ys s' g:=by
 obtain ⟨vs,k,hq⟩:=K.acc; have e:=hq.1; have hd:=hq.2
 exact ⟨S',⟨vs,k,kp _ _ e (by
  obtain ⟨m,o,es,j,e1,hdat,_⟩:=K.st.ns
  intro z
  rw [z,e1] at e; cases e; cases hdat) (by intro _ z; cases z),hd⟩,K.off,K.low,hno⟩
theorem CS.sub {D:Addr} {ys:List Dat} {s:Shared} {g:Gh} (K:CS W C D ρ ys s g) (h:Sub ρ' ρ):CS W C D ρ' ys s g:=⟨K.st.sub h,K.acc,K.off,K.low,fun x a k ds hm=>K.no x a k ds (h.mem hm)⟩
theorem CS.push {A:Around} {E:Value->Shared->Prop} {D:Addr} {ys:List Dat} {s:Shared} {g:Gh} {v:Value} {d:Dat} (K:CS W C D ρ ys s g) (h:DatIn g v d) (hz:ys.length<=sizeLine) {Q:Value->Shared->Prop}
  (hQ:∀s',CS W C D ρ (ys++[d]) s' g->Q .none s'):wpAny (model W.prog W.w) A (call (.builtin "list.append") [.ref D,v]) Q E s:=by
 obtain ⟨vs,k,e,hd⟩:=K.acc
 refine wpAny_list_append_plain (items:=vs.toArray) ⟨k,e⟩ (fun h' hp hs=>hQ _ ?_) (by rw [List.size_toArray,hd.length]; exact hz)
 obtain ⟨k',e'⟩:=hp
 have e':h'.get? D=some (listOf (vs++[v]).toArray k'):=by rw [e']; simp
 refine ⟨K.st.aside (tk:=s.toks) K.low K.off ?_ (fun x c u _ hc=>?_) (fun x k ds=>K.no x D k ds) hs.extBut,⟨vs++[v],k',e',hd.append (.one h)⟩,K.off,K.low,K.no⟩
 ·obtain ⟨m,o,es,j,e1,hdat,_⟩:=K.st.ns
  intro z
  rw [z,e] at e1; cases e1; cases hdat
 ·obtain ⟨o,e1,hdat⟩:=hc
  rintro rfl
  rw [e] at e1; cases e1; exact nomatch hdat
noncomputable def LX (W:Wd) (C:Cx) (n:Nat) (D:Addr) (ρ₀ ρ:aW) (t:Sem Unit) (zs:List Dat):Prop:=
 ∀(A:Around) (s:Shared) (g:Gh) (E:Value->Shared->Prop) (ys:List Dat),Room n A->CS W C D ρ ys s g->ys.length+zs.length<=sizeLine ->
  wpAny (model W.prog W.w) A t (fun _ s'=>∃g',CS W C D ρ₀ (ys++zs) s' g'/\∀p∈g,p∈g') E s
noncomputable def oF (elt:Expr) (acc:Value) (env:Env):Sem Unit:=do let _←call (.builtin "list.append") [acc,←eval elt env]
noncomputable def u3 (e:Expr) (depth:Nat) (acc:Value) (env:Env) (g':Comprehension):Sem Unit:=do
 let x←eval g'.iter env
 standAt g'.iter.pos
 let x←if g'.is_async != 0 then foldedIterable g'.iter x else foldedSetIterable g'.iter env x
 let _←runOwn (.compStart e (depth+1) (← holding [x] (if g'.is_async != 0 then asyncIter x else pyIter x)) acc env) env
noncomputable def oK (ifs:List Expr) (env:Env) (t:Sem Unit):Sem Unit:=do
 let mut ok:=true
 for c in ifs do
  if ok then ok←isTrue c env (eval c env)
 if ok then t
noncomputable def mY (e:Expr) (depth:Nat) (it acc:Value) (env:Env) (target iter:Expr) (t:Sem Unit):Sem Fin:=do
 standAt iter.pos
 match←pyNext it with
 | none=>pure (.done .next)
 | some v =>
  letOwnedTupleGo target it v
  assign target env v
  t
  again (.compLoop e depth it acc env)
theorem xJ (elt target iter:Expr) (ifs:List Expr) (scope:Scope) (pos:Pos) (it acc:Value) (env:Env) :
  compTurn (.ListComp elt [⟨target,iter,ifs,0⟩] scope pos) 0 it acc env=mY (.ListComp elt [⟨target,iter,ifs,0⟩] scope pos) 0 it acc env target iter (oK ifs env (oF elt acc env)):=by
 revert elt target iter ifs scope pos it acc env;refine no_implicit_lambda%(hK9 ?_);generalize (HK9 _).1=elt,(HK9 _).2.1=target,(HK9 _).2.2.1=iter,(HK9 _).2.2.2.1=ifs,(HK9 _).2.2.2.2.1=scope,(HK9 _).2.2.2.2.2.1=pos,(HK9 _).2.2.2.2.2.2.1=it,(HK9 _).2.2.2.2.2.2.2.1=acc,(HK9 _).2.2.2.2.2.2.2.2=env
 rw [compTurn_list]
 delta mY oK oF
 refine congrArg (bind (standAt iter.pos)) (funext fun _=>congrArg (bind (pyNext it)) (funext fun r=>?_))
 cases r with
 | none=>rfl
 | some v =>
  refine congrArg (bind (letOwnedTupleGo target it v)) (funext fun _=>congrArg (bind (assign target env v)) (funext fun _=>?_))
  rw [bind_assoc]
  refine congrArg (bind _) (funext fun ok=>?_)
  cases ok<;>rfl
theorem DP {α β:Type} (G:α->List β) (xs:List α) (i:Nat):((xs.take i).flatMap G).length<=(xs.flatMap G).length:=by
 conv=>rhs; rw [←List.take_append_drop i xs]
 rw [List.flatMap_append,List.length_append]
 lia
theorem sY {α:Type} {xs:List α} {emb:α->Dat} {G:α->List Dat} {A:Around} {R:Result->Shared->Prop} {s:Shared} {g:Gh} {J D:Addr} {ys:List Dat} {ρ₀:aW} {elt:Expr} {gens:List Comprehension} {scope:Scope} {pos:Pos} {depth:Nat} {target iter:Expr} {t:Sem Unit}
  (hturn:compTurn (.ListComp elt gens scope pos) depth (.ref J) (.ref D) C.env=mY (.ListComp elt gens scope pos) depth (.ref J) (.ref D) C.env target iter t) (Rm:Room n A)
  (K:CS W C D ρ₀ ys s g) (hJ0:C.s0.heap.get? J=none) (hJ:∀p∈g,p.1≠J) (hit:IterAt W A s g J (xs.map emb)) (hz:ys.length+(xs.flatMap G).length<=sizeLine)
  (act:∀a∈xs,∃ρ₁,DW W C n target (emb a) ρ₀ ρ₁/\(∀x b k ds,(x,some (Bd.ownK b k ds))∉ρ₁)/\LX W C n D ρ₀ ρ₁ t (G a))
  (hR:∀s' g',CS W C D ρ₀ (ys++xs.flatMap G) s' g'->(∀p∈g,p∈g')->R (.ok .next) s') :
  codeAny (model W.prog W.w) A (.compLoop (.ListComp elt gens scope pos) depth (.ref J) (.ref D) C.env) R s:=by
 revert W C n α xs emb G A R s g J D ys ρ₀ elt gens scope pos depth target iter t;refine no_implicit_lambda%(hK4 ?_);generalize (HK4 _).1=W,(HK4 _).2.1=C,(HK4 _).2.2.1=n,(HK4 _).2.2.2=α;refine no_implicit_lambda%(hK10 ?_);generalize (HK10 _).1=xs,(HK10 _).2.1=emb,(HK10 _).2.2.1=G,(HK10 _).2.2.2.1=A,(HK10 _).2.2.2.2.1=R,(HK10 _).2.2.2.2.2.1=s,(HK10 _).2.2.2.2.2.2.1=g,(HK10 _).2.2.2.2.2.2.2.1=J,(HK10 _).2.2.2.2.2.2.2.2.1=D,(HK10 _).2.2.2.2.2.2.2.2.2=ys;refine no_implicit_lambda%(hK9 ?_);generalize (HK9 _).1=ρ₀,(HK9 _).2.1=elt,(HK9 _).2.2.1=gens,(HK9 _).2.2.2.1=scope,(HK9 _).2.2.2.2.1=pos,(HK9 _).2.2.2.2.2.1=depth,(HK9 _).2.2.2.2.2.2.1=target,(HK9 _).2.2.2.2.2.2.2.1=iter,(HK9 _).2.2.2.2.2.2.2.2=t;intro hturn Rm K hJ0 hJ hit hz act hR
 obtain ⟨fp,Pv,Stt,Wk,st0,hfp,hPv,hobj⟩:=hit
 revert fp Pv Stt;refine no_implicit_lambda%(hK3 ?_);generalize (HK3 _).1=fp,(HK3 _).2.1=Pv,(HK3 _).2.2=Stt;intro Wk st0 hfp hPv hobj
 rw [List.length_map] at Wk
 refine codeAny_loop rfl (fun k s=>∃i g₀,k=xs.length+1-i/\i<=xs.length/\CS W C D ρ₀ (ys++(xs.take i).flatMap G) s g₀/\(∀p∈g,p∈g₀)/\(∀p∈g₀,p.1≠J)/\Stt i s.heap) ?_ (xs.length+1) ⟨0,g,rfl,Nat.zero_le _,by simpa using K,fun _ h=>h,hJ,st0⟩
 rintro k s₃ ⟨i,g₀,rfl,hi,K₃,hg,hgj,st⟩
 revert s₃ i g₀;refine no_implicit_lambda%(hK3 ?_);generalize (HK3 _).1=s₃,(HK3 _).2.1=i,(HK3 _).2.2=g₀;intro hi K₃ hg hgj st
 show wpAny _ A ((compTurn (.ListComp elt gens scope pos) depth (.ref J) (.ref D) C.env).onRaise (fun x=>do noteFrame x C.env; theTreesLotGoes x)) _ _ s₃
 refine wpAny_noted ?_
 rw [hturn]
 refine wpAny_bind (wpAny_standAt (wpAny_bind ?_))
 by_cases hlt:i<xs.length
 ·obtain ⟨o,hq⟩:=hobj i _ st; have ho:=hq.1; have hio:=hq.2
  refine Wk.item i s₃ _ _ hlt st fun v h' tk hv st' hk=>?_
  have hk':Heap.ExtBut J s₃.heap h':=fun b o hb e=>hk b o (by simpa using hb) e
  have K₄:=K₃.other (tk:=tk) hJ0 hgj ho hio hk'
  obtain ⟨o',hq⟩:=hobj _ _ st'; have ho':=hq.1; have hio':=hq.2
  have K₅:=K₄.join (s:={ s₃ with heap:=h',toks:=tk }) ho' hio' hJ0
  refine wpAny_bind (x2 (s:={ s₃ with heap:=h',toks:=tk }) ho' hio' (wpAny_bind ?_))
  obtain ⟨ρ₁,hq⟩:=act xs[i] (List.getElem_mem hlt); have hb:=hq.1; have hno:=hq.2.1; have hact:=hq.2.2
  have hd:DatIn ((J,o')::g₀) v (emb xs[i]):=by
   have:=hPv i v (by rw [List.length_map]; exact hlt) hv
   rw [List.getElem_map] at this
   exact this.mono fun p hp=>List.mem_cons_of_mem _ (hg p hp)
  refine wpAny_mono (hb A _ _ _ v Rm K₅.st hd) (fun _ s₆ ⟨S6,kp⟩=>wpAny_bind ?_) fun _ _ e=>e
  have K₆:=K₅.bind S6 kp hno
  have e1:xs.take (i+1)=xs.take i++[xs[i]]:=by rw [List.take_add_one,List.getElem?_eq_getElem hlt]; rfl
  have e2:(xs.take (i+1)).flatMap G=(xs.take i).flatMap G++G xs[i]:=by rw [e1,List.flatMap_append]; simp
  have hlen:(ys++(xs.take i).flatMap G).length+(G xs[i]).length<=sizeLine:=by
   have:=DP G xs (i+1)
   rw [e2,List.length_append] at this
   rw [List.length_append]
   lia
  refine wpAny_mono (hact A s₆ _ _ _ Rm K₆ hlen) (fun _ s₇ ⟨g₇,K₇,hg7⟩=>wpAny_pure ⟨rfl,?_⟩) fun _ _ e=>e
  have e7:s₇.heap.get? J=some o':=(K₇.st.base.gok _ (hg7 _ List.mem_cons_self)).1
  have K₈:=K₇.part e7 hio' hJ0
  have hgg:∀p∈g₀,p∈g₇.filter fun p=>decide (p.1≠J):=fun p hp=>List.mem_filter.mpr ⟨hg7 p (List.mem_cons_of_mem _ hp),by rw [decide_eq_true_eq]; exact hgj p hp⟩
  refine ⟨xs.length+1-(i+1),RA hlt,i+1,_,rfl,hlt,by rw [e2,←List.append_assoc]; exact K₈,fun p hp=>hgg p (hg p hp),fun p hp=>by have:=(List.mem_filter.mp hp).2; rwa [decide_eq_true_eq] at this,?_⟩
  refine Wk.frame _ _ _ st' fun b hb o e=>?_
  rcases hfp b hb with rfl|⟨o₂,hm⟩
  ·rw [ho'] at e; cases e; exact e7
  ·have q1:h'.get? b=some o₂:=(K₄.st.base.gok _ (hg _ hm)).1
   have q2:=(K₇.st.base.gok _ (hg7 _ (List.mem_cons_of_mem _ (hg _ hm)))).1
   rw [q1] at e; cases e; exact q2
 ·have hi':i=xs.length:=by lia
  subst hi'
  obtain ⟨o,hq⟩:=hobj _ _ st; have ho:=hq.1; have hio:=hq.2
  refine Wk.done s₃ _ _ st fun h' tk hk=>?_
  have K₄:=K₃.other (tk:=tk) hJ0 hgj ho hio fun b o hb e=>hk b o (by simpa using hb) e
  rw [List.take_length] at K₄
  exact wpAny_pure (hR _ g₀ K₄ hg)
theorem rW {D:Addr} {ρ₀ ρ:aW} {ifs:List Expr} {elt:Expr} {b:Bool} {y:Dat} (ht:Tests W C n ρ ifs b) (he:b=true->Ev W C n ρ elt y) (hs:Sub ρ₀ ρ) :
  LX W C n D ρ₀ ρ (oK ifs C.env (oF elt (.ref D) C.env)) (if b then [y] else []):=fun A s g E ys R K hz=>by
 revert ht he hs R K hz;revert W C n D ρ₀ ρ ifs elt b y A s g E ys;refine no_implicit_lambda%(hK10 ?_);generalize (HK10 _).1=W,(HK10 _).2.1=C,(HK10 _).2.2.1=n,(HK10 _).2.2.2.1=D,(HK10 _).2.2.2.2.1=ρ₀,(HK10 _).2.2.2.2.2.1=ρ,(HK10 _).2.2.2.2.2.2.1=ifs,(HK10 _).2.2.2.2.2.2.2.1=elt,(HK10 _).2.2.2.2.2.2.2.2.1=b,(HK10 _).2.2.2.2.2.2.2.2.2=y;refine no_implicit_lambda%(hK5 ?_);generalize (HK5 _).1=A,(HK5 _).2.1=s,(HK5 _).2.2.1=g,(HK5 _).2.2.2.1=E,(HK5 _).2.2.2.2=ys;intro ht he hs R K hz
 delta oK oF
 refine wpAny_bind (wpAny_mono (FJ ht R K.st) (fun ok s₁ hq=>?_) fun _ _ e=>e)
 obtain ⟨e,g₁,x₁⟩:=hq
 subst e
 have K₁:=K.step x₁
 cases ok with
 | false=>exact wpAny_pure ⟨g₁,by simpa using K₁.sub hs,x₁.sub⟩
 | true =>
  refine wpAny_bind (wpAny_mono (he rfl A s₁ g₁ E R K₁.st) (fun v s₂ hq=>?_) fun _ _ e=>e)
  obtain ⟨g₂,x₂,hU⟩:=hq
  refine wpAny_bind ((K₁.step x₂).push hU (by simp at hz; lia) fun s₃ K₃=>wpAny_pure ⟨g₂,K₃.sub hs,fun p hp=>x₂.sub p (x₁.sub p hp)⟩)
end
section
variable {W:Wd} {C:Cx} {n:Nat} {ρ ρ':aW}
theorem gE:∀(names:List (Str×NameKind)) (k:Nat) (acc:List (Str×Addr)),cellsFrom k names acc=cellsFrom k names []++acc
 | [],k,acc=>rfl
 | (x,kd)::r,k,acc=>by
  unfold cellsFrom
  split
  ·simp only [gE r (k+1) ((x,k)::acc),gE r (k+1) [(x,k)],List.append_assoc]; rfl
  ·exact gE r k acc
theorem lR {env:Env} {scope:Scope} (h:∀x,(x,NameKind.free)∈scope.names->∃c,env.cells.lookup x=some c) :
  ∃cl,closureFor scope env=pure cl/\(∀x c,(x,c)∈cl->env.cells.lookup x=some c)/\(∀x,(x,NameKind.free)∈scope.names->∃c,(x,c)∈cl)/\∀x c,(x,c)∈cl->(x,NameKind.free)∈scope.names:=by
 revert env scope;refine no_implicit_lambda%(hK2 ?_);generalize (HK2 _).1=env,(HK2 _).2=scope;intro h
 have key:∀(names:List (Str×NameKind)) (acc:List (Str×Addr)),(∀x,(x,NameKind.free)∈names->∃c,env.cells.lookup x=some c)->(∀x c,(x,c)∈acc->env.cells.lookup x=some c) ->
   ∃cl,(forIn names acc fun (p:Str×NameKind) (cs:List (Str×Addr))=>(if p.2==.free then (do let a←cellOf env p.1; pure (ForInStep.yield ((p.1,a)::cs))) else pure (ForInStep.yield cs):Sem _))=pure cl /\
    (∀x c,(x,c)∈cl->env.cells.lookup x=some c)/\(∀x,(x,NameKind.free)∈names->∃c,(x,c)∈cl)/\(∀p∈acc,p∈cl)/\∀x c,(x,c)∈cl->(x,c)∈acc\/(x,NameKind.free)∈names:=by
  intro names
  induction names with
  | nil=>intro acc _ ha; exact ⟨acc,by rw [List.forIn_nil],ha,fun _ h=>(nomatch h),fun _ h=>h,fun _ _ h=>.inl h⟩
  | cons p r ih =>
   intro acc hn ha
   revert p r acc;refine no_implicit_lambda%(hK2 ?_);generalize (HK2 _).1=p,(HK2 _).2=r;intro ih;refine no_implicit_lambda%(hK ?_);generalize HK _=acc;intro hn ha
   obtain ⟨x,k⟩:=p
   revert x k;refine no_implicit_lambda%(hK2 ?_);generalize (HK2 _).1=x,(HK2 _).2=k;intro hn
   rw [List.forIn_cons]
   by_cases hk:k=.free
   ·subst hk
    obtain ⟨c,hc⟩:=hn x List.mem_cons_self
    revert c;refine no_implicit_lambda%(hK ?_);generalize HK _=c;intro hc
    obtain ⟨cl,e,h1,h2,h3,h4⟩:=ih ((x,c)::acc) (fun y hy=>hn y (List.mem_cons_of_mem _ hy)) (fun y d hy=>by
     rcases List.mem_cons.mp hy with e|hy
     ·cases e; exact hc
     ·exact ha y d hy)
    refine ⟨cl,?_,h1,fun y hy=>?_,fun p hp=>h3 p (List.mem_cons_of_mem _ hp),fun y d hy=>?_⟩
    ·have:cellOf env x=pure c:=by unfold cellOf; rw [hc]
     simp only [beq_self_eq_true,if_true,this]
     exact e
    ·rcases List.mem_cons.mp hy with e|hy
     ·cases e; exact ⟨c,h3 _ List.mem_cons_self⟩
     ·exact h2 y hy
    ·rcases h4 y d hy with q|q
     ·rcases List.mem_cons.mp q with e|q
      ·cases e; exact .inr List.mem_cons_self
      ·exact .inl q
     ·exact .inr (List.mem_cons_of_mem _ q)
   ·obtain ⟨cl,hq⟩:=ih acc (fun y hy=>hn y (List.mem_cons_of_mem _ hy)) ha; have e:=hq.1; have h1:=hq.2.1; have h2:=hq.2.2.1; have h3:=hq.2.2.2.1; have h4:=hq.2.2.2.2
    refine ⟨cl,?_,h1,fun y hy=>?_,h3,fun y d hy=>(h4 y d hy).imp id (List.mem_cons_of_mem _)⟩
    ·have:(k==NameKind.free)=false:=by simpa using hk
     simp only [this,Bool.false_eq_true,if_false]
     exact e
    ·rcases List.mem_cons.mp hy with e|hy
     ·cases e; exact absurd rfl hk
     ·exact h2 y hy
 obtain ⟨cl,hq⟩:=key scope.names [] h (fun _ _ h=>(nomatch h)); have e:=hq.1; have h1:=hq.2.1; have h2:=hq.2.2.1; have h4:=hq.2.2.2.2
 refine ⟨cl,?_,h1,h2,fun x c hc=>(h4 x c hc).elim (fun h=>nomatch h) id⟩
 have q:closureFor scope env=bind (forIn scope.names ([]:List (Str×Addr)) fun (p:Str×NameKind) (cs:List (Str×Addr))=>(if p.2==.free then (do let a←cellOf env p.1; pure (ForInStep.yield ((p.1,a)::cs))) else pure (ForInStep.yield cs):Sem _)) pure:=rfl
 refine (q).trans ?_; rw [e]
 rfl
theorem EW {M:Model} {A:Around} {E:Value->Shared->Prop} {s:Shared} {scope:Scope} {env:Env} {cl:List (Str×Addr)} {Q:Env->Shared->Prop}
  (h:Q { scope:=scope,locals:=s.heap.objs.size,globals:=env.globals,cells:=cellsFrom (s.heap.objs.size+1) scope.names cl,qual:=env.qual,func:=none,code:=env.code,frame:=env.frame,builtins:=env.builtins }
   { s with heap:=pushCells (s.heap.push { cls:=.type "dict",data:=.dict #[] }) scope.names }) :
  wpAny M A (newFunctionEnv scope env.globals cl [] env.qual none .none (some env)) Q E s:=by
 simp only [newFunctionEnv,Option.isSome_some,if_true]
 refine wpAny_bind (wpAny_alloc ?_)
 refine wpAny_bind (wpAny_layCells _ (fun name kind cells=>by cases hkc:kind==NameKind.cell<;>simp [hkc]) _ _ _ _ ?_)
 rw [show ({ s with heap:=s.heap.push { cls:=.type "dict",data:=.dict #[] } }:Shared).heap.objs.size=s.heap.objs.size+1 from Heap.size_push ..]
 rw [List.forIn_nil]
 exact wpAny_bind (wpAny_pure (wpAny_pure h))
inductive Cap (C:Cx) (ρ:aW) (x:Str) (d:Dat):Prop
 | own:Has ρ x (.val d)->C.env.kindOf x=some .cell->Cap C ρ x d
 | far:HasF C.far x d->Cap C ρ x d
theorem Cap.at {x:Str} {d:Dat} (h:Cap C ρ x d) {s:Shared} {g:Gh} (S:St W C ρ s g):∃c v,C.env.cells.lookup x=some c/\s.heap.IsCell c (some v)/\DatIn g v d:=by
 revert h S;revert W C ρ x d s g;refine no_implicit_lambda%(hK7 ?_);generalize (HK7 _).1=W,(HK7 _).2.1=C,(HK7 _).2.2.1=ρ,(HK7 _).2.2.2.1=x,(HK7 _).2.2.2.2.1=d,(HK7 _).2.2.2.2.2.1=s,(HK7 _).2.2.2.2.2.2=g;intro h S
 cases h with
 | own h hk =>
  obtain ⟨v,hq⟩:=S.vars _ _ h.mem; have hv:=hq.1; have hd:=hq.2
  rcases hv with ⟨h1,_⟩|⟨_,c,hc,hv⟩
  ·rw [hk] at h1; exact nomatch h1
  ·exact ⟨c,v,hc,hv,hd⟩
 | far h =>
  obtain ⟨_,c,v,hq⟩:=S.fars _ h.mem; have hc:=hq.1; have hv:=hq.2.2.1; have hd:=hq.2.2.2
  exact ⟨c,v,hc,hv,hd⟩
noncomputable def n6 (scope:Scope) (far:List (Str×Dat)) (ρ₀:aW):Bool:=
 scope.kind==.function&&scope.names.all (fun x=>x.2 != .local||scope.names.lookup x.1==some .local) &&
 (scope.names.filterMap fun x=>if x.2==.free then some x.1 else none)==far.map (·.1) &&
 ρ₀.all (fun p=>p.2.isNone&&(scope.names.lookup p.1==some .local||scope.names.lookup p.1==some .cell))&&decide ((ρ₀.map (·.1)).Nodup) &&
 far.all (fun p=>scope.names.lookup p.1==some .free&&p.1 != ("__classdict__":Str)&&scope.names.all fun x=>x.1 != p.1||x.2==.free)
structure CompOk (scope:Scope) (far:List (Str×Dat)) (ρ₀:aW):Prop where
 kind:scope.kind=.function
 locs:∀x∈scope.names,x.2=.local->scope.names.lookup x.1=some .local
 free:∀x,(x,NameKind.free)∈scope.names->∃d,(x,d)∈far
 rho:∀p∈ρ₀,p.2=none/\(scope.names.lookup p.1=some .local\/scope.names.lookup p.1=some .cell)
 nodup:(ρ₀.map (·.1)).Nodup
 one:∀p∈far,∀k,(p.1,k)∈scope.names->k=.free
 far:∀p∈far,scope.names.lookup p.1=some .free/\(p.1==("__classdict__":Str))=false
theorem k9 {scope:Scope} {far:List (Str×Dat)} {ρ₀:aW} (h:n6 scope far ρ₀=true):CompOk scope far ρ₀:=by
 revert scope far ρ₀;refine no_implicit_lambda%(hK3 ?_);generalize (HK3 _).1=scope,(HK3 _).2.1=far,(HK3 _).2.2=ρ₀;intro h
 unfold n6 at h
 simp only [Bool.and_eq_true,decide_eq_true_eq] at h
 obtain ⟨⟨⟨⟨⟨h1,h2⟩,h3⟩,h4⟩,h5⟩,h6⟩:=h
 refine ⟨eq_of_beq h1,fun x hx hl=>?_,fun x hx=>?_,fun p hp=>?_,h5,fun p hp k hk=>?_,fun p hp=>?_⟩
 ·have:=List.all_eq_true.mp h2 x hx
  simpa [hl] using this
 ·have e:(scope.names.filterMap fun x=>if x.2==.free then some x.1 else none)=far.map (·.1):=eq_of_beq h3
  have:x∈(scope.names.filterMap fun x=>if x.2==.free then some x.1 else none):=List.mem_filterMap.mpr ⟨_,hx,rfl⟩
  rw [e] at this
  obtain ⟨q,hq,rfl⟩:=List.mem_map.mp this
  exact ⟨q.2,hq⟩
 ·have:=List.all_eq_true.mp h4 p hp
  simpa using this
 ·have:=List.all_eq_true.mp h6 p hp
  rw [Bool.and_eq_true] at this
  have:=List.all_eq_true.mp this.2 _ hk
  simpa using this
 ·have:=List.all_eq_true.mp h6 p hp
  rw [Bool.and_eq_true] at this
  simpa using this.1
structure Blk (scope:Scope) (env:Env) (C':Cx) (far:List (Str×Dat)):Prop where
 far:C'.far=far
 kind:∀x k,scope.names.lookup x=some k->k≠.free->C'.env.kindOf x=some k
 free:∀x,scope.names.lookup x=some .free->env.scope.kind=.function->env.kindOf x=some .cell->C'.env.kindOf x=some .cell
 fun_:C'.env.scope.kind=.function
theorem jW {β:Type} (f:Str->β->β) (x:Str) (l:List (Str×β)):(l.map fun p=>(p.1,f p.1 p.2)).lookup x=(l.lookup x).map (f x):=by
 induction l with
 | nil=>rfl
 | cons p l ih =>
  rw [List.map_cons,List.lookup_cons,List.lookup_cons]
  cases hx:x==p.1 with
  | true=>rw [eq_of_beq hx]; rfl
  | false=>exact ih
theorem pU {env:Env} {names:List (Str×NameKind)}:(names.map fun (n,k)=>if (k==NameKind.free&&env.scope.kind==.function&&env.kindOf n==some .cell) then (n,NameKind.cell) else (n,k)) =
  names.map fun p=>(p.1,if (p.2==NameKind.free&&env.scope.kind==.function&&env.kindOf p.1==some .cell)=true then NameKind.cell else p.2):=
 List.map_congr_left fun p _=>by
  by_cases h:(p.2==NameKind.free&&env.scope.kind==.function&&env.kindOf p.1==some .cell)=true
  ·exact (if_pos h).trans (congrArg _ (if_pos h).symm)
  ·exact (if_neg h).trans (congrArg _ (if_neg h).symm)
theorem fP {env:Env} {k:NameKind} (hk:k≠.free) {names:List (Str×NameKind)} {x:Str} (h:names.lookup x=some k) :
  (names.map fun (n,k)=>if (k==NameKind.free&&env.scope.kind==.function&&env.kindOf n==some .cell) then (n,NameKind.cell) else (n,k)).lookup x=some k:=by
 rw [pU,jW (fun n k=>if (k==NameKind.free&&env.scope.kind==.function&&env.kindOf n==some .cell)=true then NameKind.cell else k),h]
 show some (if (k==NameKind.free&&env.scope.kind==.function&&env.kindOf x==some .cell)=true then NameKind.cell else k)=some k
 rw [show (k==NameKind.free)=false from beq_eq_false_iff_ne.mpr hk]
 rfl
theorem gX {env:Env} {names:List (Str×NameKind)} {x:Str} (h:names.lookup x=some .free) :
  (names.map fun (n,k)=>if (k==NameKind.free&&env.scope.kind==.function&&env.kindOf n==some .cell) then (n,NameKind.cell) else (n,k)).lookup x=some (if (env.scope.kind==.function&&env.kindOf x==some .cell)=true then .cell else .free):=by
 rw [pU,jW (fun n k=>if (k==NameKind.free&&env.scope.kind==.function&&env.kindOf n==some .cell)=true then NameKind.cell else k),h]
 rfl
theorem iH {α:Type}:∀ {l:List (Str×α)} {x:Str} {c:α},(x,c)∈l->∃c',l.lookup x=some c'
 | (y,d)::r,x,c,h=>by
  rw [List.lookup_cons]
  cases hx:x==y with
  | true=>exact ⟨d,rfl⟩
  | false =>
   rcases List.mem_cons.mp h with e|h
   ·cases e; simp at hx
   ·exact iH h
theorem eZ {s s':Shared} {g g':Gh} (B:Base W s g) (x:Ext W s g s' g') {a:Addr} (h:s'.heap.get? a=none):s.heap.get? a=none:=by
 cases q:s.heap.get? a with
 | none=>rfl
 | some o =>
  have:=x.keep _ _ q ((B.step x).wok.not_tb (B.step x).old h)
  rw [h] at this; exact nomatch this
theorem IterAt.keep {A:Around} {s s':Shared} {g:Gh} {J:Addr} {ds:List Dat} (h:IterAt W A s g J ds) (hk:∀b o,s.heap.get? b=some o->s'.heap.get? b=some o):IterAt W A s' g J ds:=by
 revert W A s s' g J ds;refine no_implicit_lambda%(hK7 ?_);generalize (HK7 _).1=W,(HK7 _).2.1=A,(HK7 _).2.2.1=s,(HK7 _).2.2.2.1=s',(HK7 _).2.2.2.2.1=g,(HK7 _).2.2.2.2.2.1=J,(HK7 _).2.2.2.2.2.2=ds;intro h hk
 obtain ⟨fp,Pv,Stt,hq⟩:=h; have Wk:=hq.1; have st0:=hq.2.1; have r:=hq.2.2
 exact ⟨fp,Pv,Stt,Wk,Wk.frame _ _ _ st0 fun b _ o e=>hk b o e,r⟩
theorem iV {x:Str} {c:Addr}:∀(names:List (Str×NameKind)) (k:Nat) (acc:List (Str×Addr)),(x,c)∈cellsFrom k names acc->(x,c)∈acc\/(x,NameKind.cell)∈names
 | [],_,_,h=>.inl h
 | (y,j)::r,k,acc,h=>by
  unfold cellsFrom at h
  split at h
  ·rename_i hj
   have:j=.cell:=by simpa using hj
   subst this
   rcases iV r _ _ h with h|h
   ·rcases List.mem_cons.mp h with e|h
    ·cases e; exact .inr List.mem_cons_self
    ·exact .inl h
   ·exact .inr (List.mem_cons_of_mem _ h)
  ·exact (iV r _ _ h).imp id (List.mem_cons_of_mem _)
theorem nV {α:Type} {xs:List α} {emb:α->Dat} {G:α->List Dat} {elt target iter:Expr} {ifs:List Expr} {rest:List Comprehension} {scope:Scope} {pos:Pos} {far:List (Str×Dat)} {ρ₀:aW}
  (ok:n6 scope far ρ₀=true) (hit:J9 W C n ρ iter (xs.map emb)) (hcap:∀p∈far,Cap C ρ p.1 p.2) (hz:(xs.flatMap G).length<=sizeLine)
  (turn:∀C':Cx,Blk scope C.env C' far->∀(D:Addr) (it:Value),∃t,compTurn (.ListComp elt (⟨target,iter,ifs,0⟩::rest) scope pos) 0 it (.ref D) C'.env=mY (.ListComp elt (⟨target,iter,ifs,0⟩::rest) scope pos) 0 it (.ref D) C'.env target iter t /\
   ∀a∈xs,∃ρ₁,DW W C' n target (emb a) ρ₀ ρ₁/\(∀x b k ds,(x,some (Bd.ownK b k ds))∉ρ₁)/\LX W C' n D ρ₀ ρ₁ t (G a))
  {A:Around} {s:Shared} {g:Gh} {E:Value->Shared->Prop} (R:Room n A) (S:St W C ρ s g) {cl:List (Str×Addr)} (hcl1:∀x c,(x,c)∈cl->C.env.cells.lookup x=some c) (hcl2:∀x,(x,NameKind.free)∈scope.names->∃c,(x,c)∈cl)
  (hcl3:∀x c,(x,c)∈cl->(x,NameKind.free)∈scope.names) {RR:Value->Addr->Result->Shared->Prop}
  (hRR:∀D L s' g',s.heap.get? D=none->s.heap.get? L=none->D≠L->Ext W s g s' g'->(∃vs k,s'.heap.get? D=some (listOf vs.toArray k)/\DatAll g' vs (xs.flatMap G))->(∀p∈g',p.1≠D)->(∀p∈g',p.1≠L)->(∃m,s'.heap.Ns L m)->RR (.ref D) L (.ok .next) s') :
  wpAny (model W.prog W.w) A (eval iter C.env) (fun x s₁=>wpAny (model W.prog W.w) A (pyIter x) (fun it s₂=>wpAny (model W.prog W.w) A (newList []) (fun acc s₃ =>
   wpAny (model W.prog W.w) A (newFunctionEnv scope C.env.globals cl [] C.env.qual none .none (some C.env)) (fun cenv s₄ =>
    codeAny (model W.prog W.w) A (.compStart (.ListComp elt (⟨target,iter,ifs,0⟩::rest) scope pos) 0 it acc { cenv with scope:=relabel scope C.env }) (RR acc cenv.locals) s₄) E s₃) E s₂) E s₁) E s:=by
 revert ok hit hcap hz turn R S hcl1 hcl2 hcl3 hRR;revert W C n ρ α xs emb G elt target iter ifs rest scope pos far ρ₀ A s g E cl RR;refine no_implicit_lambda%(hK5 ?_);generalize (HK5 _).1=W,(HK5 _).2.1=C,(HK5 _).2.2.1=n,(HK5 _).2.2.2.1=ρ,(HK5 _).2.2.2.2=α;refine no_implicit_lambda%(hK10 ?_);generalize (HK10 _).1=xs,(HK10 _).2.1=emb,(HK10 _).2.2.1=G,(HK10 _).2.2.2.1=elt,(HK10 _).2.2.2.2.1=target,(HK10 _).2.2.2.2.2.1=iter,(HK10 _).2.2.2.2.2.2.1=ifs,(HK10 _).2.2.2.2.2.2.2.1=rest,(HK10 _).2.2.2.2.2.2.2.2.1=scope,(HK10 _).2.2.2.2.2.2.2.2.2=pos;refine no_implicit_lambda%(hK8 ?_);generalize (HK8 _).1=far,(HK8 _).2.1=ρ₀,(HK8 _).2.2.1=A,(HK8 _).2.2.2.1=s,(HK8 _).2.2.2.2.1=g,(HK8 _).2.2.2.2.2.1=E,(HK8 _).2.2.2.2.2.2.1=cl,(HK8 _).2.2.2.2.2.2.2=RR;intro ok hit hcap hz turn R S hcl1 hcl2 hcl3 hRR
 have O:=k9 ok
 refine wpAny_mono (hit A s g E R S) (fun x s₁ hM=>wpAny_mono hM (fun it s₂ hU=>?_) fun _ _ e=>e) fun _ _ e=>e
 revert x s₁ it s₂;refine no_implicit_lambda%(hK2 ?_);generalize (HK2 _).1=x,(HK2 _).2=s₁;intro hM;refine no_implicit_lambda%(hK2 ?_);generalize (HK2 _).1=it,(HK2 _).2=s₂;intro hU
 obtain ⟨g₂,J,hq⟩:=hU; have x₂:=hq.2.1; have hJ:=hq.2.2.1; have hgJ:=hq.2.2.2.1; have hat:=hq.2.2.2.2; obtain rfl:=hq.1
 revert g₂ J;refine no_implicit_lambda%(hK2 ?_);generalize (HK2 _).1=g₂,(HK2 _).2=J;intro x₂ hJ hgJ hat hq
 have B₂:=S.base.step x₂
 refine wpAny_newObj_type (EW ?_)
 dsimp only
 generalize hH:s₂.heap.push { cls:=.type "list",dict:=none,data:=.seq ([]:List Value).toArray }=H
 have hHs:H.objs.size=s₂.heap.objs.size+1:=by rw [←hH,Heap.size_push]
 have keep1:∀b o,s₂.heap.get? b=some o->H.get? b=some o:=fun b o e=>hH▸Heap.get?_push_of_some _ e
 have hDat:H.get? s₂.heap.objs.size=some (listOf ([]:List Value).toArray 0):=hH▸Heap.get?_push_size _ rfl
 generalize hH2:H.push { cls:=.type "dict",data:=.dict #[] }=H2
 have hH2s:H2.objs.size=H.objs.size+1:=by rw [←hH2,Heap.size_push]
 have keep2:∀b o,H.get? b=some o->H2.get? b=some o:=fun b o e=>hH2▸Heap.get?_push_of_some _ e
 have keep3:∀b o,H2.get? b=some o->(pushCells H2 scope.names).get? b=some o:=pushCells_keeps _ _
 have keepA:∀b o,s₂.heap.get? b=some o->(pushCells H2 scope.names).get? b=some o:=fun b o e=>keep3 b o (keep2 b o (keep1 b o e))
 have fresh:∀a,s₂.heap.objs.size<=a->s.heap.get? a=none:=fun a ha=>eZ S.base x₂ (by
  cases e:s₂.heap.get? a with
  | none=>rfl
  | some o=>exact absurd (Heap.lt_size e) (Nat.not_lt.mpr ha))
 have low2:∀p∈g₂,p.1<s₂.heap.objs.size:=fun p hp=>Heap.lt_size (B₂.gok p hp).1
 have okc:=cellsFrom_ok scope.names H2 (H.objs.size+1) [] ⟨fun _ _ hm=>(nomatch hm),List.Pairwise.nil⟩ (by rw [hH2s]; exact Nat.le_refl _)
 rw [hH2s] at okc
 rw [gE]
 generalize hcs:cellsFrom (H.objs.size+1) scope.names []=cs at okc
 have x₃:Ext W s g { s₂ with heap:=pushCells H2 scope.names } g₂:=x₂.trans (Ext.of_keeps (tk:=s₂.toks) B₂.gok keepA)
 have clow:∀x c,(x,c)∈cl->∃o,s.heap.get? c=some o:=fun x c hm=>by
  obtain ⟨d,hd⟩:=O.free x (hcl3 x c hm)
  obtain ⟨c',v,e1,⟨o,e2,_⟩,_⟩:=(hcap _ hd).at S
  have e1:C.env.cells.lookup x=some c':=e1
  rw [hcl1 x c hm] at e1
  cases e1
  exact ⟨o,e2⟩
 have cslow:∀x c,(x,c)∈cs->s.heap.get? c=none/\(pushCells H2 scope.names).IsCell c none/\s₂.heap.objs.size+1<c:=fun x c hm=>by
  obtain ⟨h1,h2⟩:=okc.empty x c hm
  exact ⟨fresh c (by lia),h1,by lia⟩
 have csl:∀x c,(cs++cl).lookup x=some c->(cs.lookup x=some c/\(x,c)∈cs)\/(cs.lookup x=none/\cl.lookup x=some c/\(x,c)∈cl):=fun x c e=>by
  rw [List.lookup_append] at e
  cases q:cs.lookup x with
  | some c'=>rw [q] at e; cases e; exact .inl ⟨rfl,mem_of_lookup q⟩
  | none=>rw [q,Option.none_or] at e; exact .inr ⟨rfl,e,mem_of_lookup e⟩
 have hLs:s.heap.get? H.objs.size=none:=fresh _ (by lia)
 let C':Cx:={ env:={ scope:=relabel scope C.env,locals:=H.objs.size,globals:=C.env.globals,cells:=cs++cl,qual:=C.env.qual,func:=none,code:=C.env.code,frame:=C.env.frame,builtins:=C.env.builtins },s0:=s,g0:=g,far:=far }
 have hB:Blk scope C.env C' far:=⟨rfl,fun x k e hk=>fP hk e,fun x e h1 h2=>by
  show (relabel scope C.env).names.lookup x=some .cell
  unfold relabel
  refine (gX e).trans ?_; rw [h1,h2]
  rfl,O.kind⟩
 have S':St W C' ρ₀ { s₂ with heap:=pushCells H2 scope.names } g₂:=by
  refine ⟨S.base.step x₃,S.base,x₃,O.kind,S.globals,S.builtins,hLs,⟨_,(hH2▸Heap.Ns.new H (.type "dict"):H2.Ns H.objs.size _).keeps keep3⟩,fun p hp=>?_,fun p hp=>?_,fun x c h1 h2 h3=>?_,fun x y c h1 h2=>?_,O.nodup,fun x b hb=>?_,fun x y a k j ds es h1=>?_,fun p hp=>?_⟩
  ·have:=low2 p hp
   exact Nat.ne_of_lt (Nat.lt_of_lt_of_le this (by show s₂.heap.objs.size<=H.objs.size; lia))
  ·rcases (O.rho p hp).2 with e|e
   ·exact .loc (fP (by decide) e)
   ·have:(cs.lookup p.1).isSome=true:=by
     rw [←hcs]
     exact PySem.W.cellsFrom_some _ _ _ (.inl e)
    obtain ⟨c,hc⟩:=Option.isSome_iff_exists.mp this
    exact .own c (fP (by decide) e) (by show (cs++cl).lookup p.1=some c; rw [List.lookup_append,hc]; rfl) (cslow _ _ (mem_of_lookup hc)).1
  ·rcases csl x c h2 with ⟨_,hm⟩|⟨_,_,hm⟩
   ·obtain ⟨q1,q2,q3⟩:=cslow x c hm
    exact ⟨⟨_,q2⟩,fun p hp=>Nat.ne_of_lt (Nat.lt_trans (low2 p hp) (by lia))⟩
   ·obtain ⟨o,e⟩:=clow x c hm
    have h3:s.heap.get? c=none:=h3
    rw [e] at h3; exact nomatch h3
  ·rcases csl x c h1 with ⟨_,m1⟩|⟨_,_,m1⟩<;>rcases csl y c h2 with ⟨_,m2⟩|⟨_,_,m2⟩
   ·exact name_of_addr okc.apart m1 m2
   ·obtain ⟨o,e⟩:=clow y c m2
    rw [(cslow x c m1).1] at e; exact nomatch e
   ·obtain ⟨o,e⟩:=clow x c m1
    rw [(cslow y c m2).1] at e; exact nomatch e
   ·exact S.apart x y c (hcl1 x c m1) (hcl1 y c m2)
  ·have:=(O.rho _ hb).1
   cases this
  ·have:=(O.rho _ h1).1
   exact nomatch this
  ·obtain ⟨c,v,e1,e2,e3⟩:=(hcap p hp).at S
   have hfree:=(O.far p hp).1
   obtain ⟨c',hc'⟩:=hcl2 p.1 (mem_of_lookup hfree)
   obtain ⟨c'',hc''⟩:=iH hc'
   have hcc:c''=c:=by
    have:=hcl1 _ _ (mem_of_lookup hc'')
    rw [e1] at this; exact (Option.some.inj this).symm
   subst hcc
   have hno:cs.lookup p.1=none:=by
    cases q:cs.lookup p.1 with
    | none=>rfl
    | some c₃ =>
     exfalso
     have m:=mem_of_lookup q
     rw [←hcs] at m
     rcases iV _ _ _ m with h|h
     ·cases h
     ·exact absurd (O.one p hp _ h) (by decide)
   refine ⟨?_,c'',v,by show (cs++cl).lookup p.1=some c''; simp only [List.lookup_append,hno,hc'']; rfl,?_,IsCell.ext S.base x₃ e2,e3.mono x₂.sub⟩
   ·show (relabel scope C.env).names.lookup p.1=some .cell\/(relabel scope C.env).names.lookup p.1=some .free/\_
    unfold relabel
    rw [gX hfree]
    split
    ·exact .inl rfl
    ·exact .inr ⟨rfl,(O.far p hp).2⟩
   ·obtain ⟨o,hq⟩:=e2; have e:=hq.1
    exact ⟨o,e⟩
 have K:CS W C' s₂.heap.objs.size ρ₀ [] { s₂ with heap:=pushCells H2 scope.names } g₂:=
  ⟨S',⟨[],0,keep3 _ _ (keep2 _ _ hDat),.nil⟩,fun p hp=>Nat.ne_of_lt (low2 p hp),fresh _ (Nat.le_refl _),fun x a k ds hm=>by have:=(O.rho _ hm).1; cases this⟩
 have hat':IterAt W A { s₂ with heap:=pushCells H2 scope.names } g₂ J (xs.map emb):=hat.keep keepA
 obtain ⟨t,hq⟩:=turn C' hB s₂.heap.objs.size (.ref J); have ht:=hq.1; have hact:=hq.2
 have loop:codeAny (model W.prog W.w) A (.compLoop (.ListComp elt (⟨target,iter,ifs,0⟩::rest) scope pos) 0 (.ref J) (.ref s₂.heap.objs.size) C'.env) (RR (.ref s₂.heap.objs.size) H.objs.size) { s₂ with heap:=pushCells H2 scope.names }:=by
  refine sY ht R K hJ hgJ hat' (by simpa using hz) hact fun s' g' K' _=>?_
  rw [List.nil_append] at K'
  exact hRR _ _ s' g' (fresh _ (Nat.le_refl _)) hLs (by rw [hHs]; exact Nat.ne_of_lt (Nat.lt_succ_self _)) K'.st.ext K'.acc K'.off K'.st.lg K'.st.ns
 obtain ⟨fp,Pv,Stt,hq⟩:=hat'; have Wk:=hq.1; have st0:=hq.2.1
 exact codeAny_compStart_list loop (Wk.self 0 _ _ _ st0 loop)
end
section
variable {W:Wd} {C:Cx} {n:Nat} {ρ ρ':aW}
noncomputable def AW (ρ:aW):Bool:=ρ.all fun p=>match p.2 with
 | some (.ownK _ _ _)=>false
 | _=>true
theorem qT {ρ:aW} (h:AW ρ=true) (x:Str) (b:Addr) (k:Kd) (ds:List Dat):(x,some (Bd.ownK b k ds))∉ρ:=fun hm=>by
 have:=List.all_eq_true.mp h _ hm
 cases this
structure Turn (W:Wd) (C':Cx) (n:Nat) (target:Expr) (ifs:List Expr) (elt:Expr) (ρ₀:aW) (d:Dat) (r:Option Dat):Prop where
 ok:∃ρ₁ b,DW W C' n target d ρ₀ ρ₁/\AW ρ₁=true/\Sub ρ₀ ρ₁/\Tests W C' n ρ₁ ifs b/\(b=true->∃y,r=some y/\Ev W C' n ρ₁ elt y)/\(b=false->r=none)
theorem gK {ρ₁:aW} {target elt:Expr} {ρ₀:aW} {d y:Dat} (hb:DW W C n target d ρ₀ ρ₁) (he:Ev W C n ρ₁ elt y) (hn:autoParam (AW ρ₁=true) Mine.dG._auto_1) (hs:Sub ρ₀ ρ₁:=by repeat constructor):Turn W C n target [] elt ρ₀ d (some y):=
 ⟨ρ₁,true,hb,hn,hs,.nil,fun _=>⟨y,rfl,he⟩,fun h=>nomatch h⟩
theorem eH {ρ₁:aW} {target elt c:Expr} {ρ₀:aW} {d y:Dat} {b:Bool} (hb:DW W C n target d ρ₀ ρ₁) (ht:sH W C n ρ₁ c b) (he:b=true->Ev W C n ρ₁ elt y) (hn:autoParam (AW ρ₁=true) Mine.dG._auto_1) (hs:autoParam (Sub ρ₀ ρ₁) Mine.gK._auto_1) :
  Turn W C n target [c] elt ρ₀ d (if b then some y else none):=
 ⟨ρ₁,b,hb,hn,hs,.one ht,fun h=>⟨y,by rw [h]; rfl,he h⟩,fun h=>by rw [h]; rfl⟩
theorem fJ {α β:Type} (F:α->Option β) (xs:List α):(xs.flatMap fun a=>(F a).toList)=xs.filterMap F:=by
 induction xs with
 | nil=>rfl
 | cons x xs ih =>
  rw [List.flatMap_cons,ih]
  cases h:F x<;>simp [List.filterMap_cons,h]
theorem lO {α β:Type} (F:α->Option β) (xs:List α):(xs.filterMap F).length<=xs.length:=List.length_filterMap_le F xs
theorem FF {α:Type} {xs:List α} {emb:α->Dat} {F:α->Option Dat} {C':Cx} {target elt:Expr} {ifs:List Expr} {ρ₀:aW} (turn:∀a∈xs,Turn W C' n target ifs elt ρ₀ (emb a) (F a)) (D:Addr) :
  ∀a∈xs,∃ρ₁,DW W C' n target (emb a) ρ₀ ρ₁/\(∀x b k ds,(x,some (Bd.ownK b k ds))∉ρ₁)/\LX W C' n D ρ₀ ρ₁ (oK ifs C'.env (oF elt (.ref D) C'.env)) (F a).toList:=fun a ha=>by
 obtain ⟨ρ₁,b,hq⟩:=(turn a ha).ok; have h1:=hq.1; have h2:=hq.2.1; have h3:=hq.2.2.1; have h4:=hq.2.2.2.1; have h5:=hq.2.2.2.2.1; have h6:=hq.2.2.2.2.2
 refine ⟨ρ₁,h1,qT h2,?_⟩
 cases b with
 | true =>
  obtain ⟨y,hq⟩:=h5 rfl; have e:=hq.1; have he:=hq.2
  rw [e]
  exact rW (b:=true) h4 (fun _=>he) h3
 | false =>
  rw [h6 rfl]
  exact rW (b:=false) (y:=.none) (elt:=elt) h4 (fun h=>nomatch h) h3
theorem dO {α:Type} {xs:List α} {emb:α->Dat} (F:α->Option Dat) {elt target iter:Expr} {ifs:List Expr} {scope:Scope} {pos:Pos} {far:List (Str×Dat)} {ρ₀:aW}
  (ok:n6 scope far ρ₀=true) (hit:J9 W C n ρ iter (xs.map emb)) (hcap:∀p∈far,Cap C ρ p.1 p.2) (hz:xs.length<=sizeLine)
  (turn:∀C':Cx,Blk scope C.env C' far->∀a∈xs,Turn W C' n target ifs elt ρ₀ (emb a) (F a)) (hs:autoParam (∀env x,foldedSetIterable iter env x=pure x) Mine.eM._auto_1) :
  Ev W C n ρ (.ListComp elt [⟨target,iter,ifs,0⟩] scope pos) (.list (xs.filterMap F)):=fun A s g E R S=>by
 have O:=k9 ok
 obtain ⟨cl,hcl,h1,h2,h3⟩:=lR (env:=C.env) (scope:=scope) fun x hx=>by
  obtain ⟨d,hd⟩:=O.free x hx
  obtain ⟨c,v,hq⟩:=(hcap _ hd).at S; have e:=hq.1
  exact ⟨c,e⟩
 rw [eval_ListComp]
 refine wpAny_comprehension_free (use:=none) rfl (hs _) hcl O.kind O.locs (nV (G:=fun a=>(F a).toList) ok hit hcap ?_ ?_ R S h1 h2 h3 ?_)
 ·rw [fJ]; exact Nat.le_trans (lO F xs) hz
 ·intro C' hB D it
  exact ⟨_,xJ ..,FF (turn C' hB) D⟩
 ·intro D L s' g' hD hL hne x hacc hoD hoL hns
  obtain ⟨m,hn⟩:=hns
  refine ⟨m,hn,fun h' hsb=>?_⟩
  obtain ⟨vs,k,hq⟩:=hacc; have e:=hq.1; have hd:=hq.2
  rw [fJ] at hd
  have eD:h'.get? D=some (listOf vs.toArray k):=(hsb.2 D hne).trans e
  refine ⟨(D,listOf vs.toArray k)::g',?_,.list List.mem_cons_self (hd.mono fun p hp=>List.mem_cons_of_mem _ hp)⟩
  have y:=Ext.same (tk:=s'.toks) S.base x hL hoL hsb.extBut
  exact ⟨y.keep,y.old,fun p hp=>List.mem_cons_of_mem _ (y.sub p hp),fun p hp=>by
   rcases List.mem_cons.mp hp with rfl|hp
   ·exact ⟨eD,S.base.wok.not_tb S.base.old hD⟩
   ·exact y.ok p hp,fun p hp=>by
   rcases List.mem_cons.mp hp with rfl|hp
   ·exact .inr hD
   ·exact y.new p hp,y.os,y.bare,y.tabs⟩
theorem jJ {α:Type} {xs:List α} {emb:α->Dat} (F:α->Option Dat) {elt target iter:Expr} {ifs:List Expr} {scope:Scope} {pos spos py:Pos} {y:Str} {far:List (Str×Dat)} {ρ₀:aW}
  (ok:n6 scope far ρ₀=true) (hit:J9 W C n ρ iter (xs.map emb)) (hcap:∀p∈far,Cap C ρ p.1 p.2) (hz:xs.length<=sizeLine)
  (turn:∀C':Cx,Blk scope C.env C' far->∀a∈xs,Turn W C' n target ifs elt ρ₀ (emb a) (F a)) (hp:Put y (some (.val (.list (xs.filterMap F)))) ρ ρ')
  (hk:C.env.kindOf y=some .local) (hl:autoParam ((py.line==pos.line)=true) Mine.dG._auto_1) (hno:(scope.names.any fun (n,k)=>n==y&&(k==.local||k==.cell))=false:=by kernel_rfl) (hs:autoParam (∀env x,foldedSetIterable iter env x=pure x) Mine.eM._auto_1) :
  Ex W C n ρ (.Assign [.Name y py] (.ListComp elt [⟨target,iter,ifs,0⟩] scope pos) spos) (iS ρ'):=fun A s g E R S=>by
 have O:=k9 ok
 obtain ⟨cl,hcl,h1,h2,h3⟩:=lR (env:=C.env) (scope:=scope) fun x hx=>by
  obtain ⟨d,hd⟩:=O.free x hx
  obtain ⟨c,v,hq⟩:=(hcap _ hd).at S; have e:=hq.1
  exact ⟨c,e⟩
 have hsw:swapsWith (.ListComp elt [⟨target,iter,ifs,0⟩] scope pos) (some (.Name y py)) spos.line C.env=pure true:=by
  show (pure (C.env.blockKind==.function&&C.env.kindOf y==some .local&&py.line==pos.line && !(scope.names.any fun (n,k)=>n==y&&(k==.local||k==.cell))):Sem Bool)=pure true
  simp only [hno,hk,hl]
  have:C.env.blockKind=.function:=by
   unfold Env.blockKind
   rw [S.kind]; rfl
  rw [this]
  rfl
 rw [exec_Assign_Name_used _ _ _ _ hsw]
 refine wpAny_bind (wpAny_standAt (wpAny_bind ?_))
 refine wpAny_bind (wpAny_mono (wpAny_comprehension_free (use:=some (assign (.Name y py) C.env)) (Q:=fun _ s'=>wN W C g (iS ρ') .next s') rfl (hs _) hcl O.kind O.locs (nV (G:=fun a=>(F a).toList) ok hit hcap ?_ ?_ R S h1 h2 h3 ?_)) (fun _ s' hq=>wpAny_pure (wpAny_pure hq)) fun _ _ e=>e)
 ·rw [fJ]; exact Nat.le_trans (lO F xs) hz
 ·intro C' hB D it
  exact ⟨_,xJ ..,FF (turn C' hB) D⟩
 ·intro D L s' g' hD hL hne x hacc hoD hoL hns
  obtain ⟨m,hn⟩:=hns
  obtain ⟨vs,k,hq⟩:=hacc; have e:=hq.1; have hd:=hq.2
  rw [fJ] at hd
  have y':Ext W s g s' ((D,listOf vs.toArray k)::g'):=⟨x.keep,x.old,fun p hp=>List.mem_cons_of_mem _ (x.sub p hp),fun p hp=>by
   rcases List.mem_cons.mp hp with rfl|hp
   ·exact ⟨e,S.base.wok.not_tb S.base.old hD⟩
   ·exact x.ok p hp,fun p hp=>by
   rcases List.mem_cons.mp hp with rfl|hp
   ·exact .inr hD
   ·exact x.new p hp,x.os,x.bare,x.tabs⟩
  have S':=S.step y'
  refine wpAny_assign_Name (S'.store hp (.list List.mem_cons_self (hd.mono fun p hp=>List.mem_cons_of_mem _ hp)) fun s'' S'' kp=>?_)
  have hLloc:C.env.locals≠L:=by
   obtain ⟨m',o,es,k',e',_⟩:=S.ns
   intro z; rw [z,hL] at e'; cases e'
  have hn':s''.heap.Ns L m:=hn.at' fun o e=>kp L o e (Ne.symm hLloc) (by
   obtain ⟨o',es,j,e',hdat,_⟩:=hn
   rw [e] at e'; cases e'
   rw [hdat]; intro _ z; cases z)
  have hdict:∃o es j,s''.heap.get? L=some o/\o.data=.dict es j:=by
   obtain ⟨o,es,j,hq⟩:=hn'; have e':=hq.1; have hdat:=hq.2.1
   exact ⟨o,es,j,e',hdat⟩
  obtain ⟨oL,es,j,eL,dL⟩:=hdict
  refine ⟨m,hn',fun h' hsb=>⟨.next,ρ',_,⟨rfl,rfl⟩,S''.aside (tk:=s''.toks) (eZ S.base0 S.ext hL) ?_ hLloc ?_ ?_ hsb.extBut,y'.sub,trivial⟩⟩
  ·intro p hp
   rcases List.mem_cons.mp hp with rfl|hp
   ·exact hne
   ·exact hoL p hp
  ·rintro x c u _ ⟨o,e1,d1⟩ rfl
   rw [eL] at e1; cases e1; rw [dL] at d1; cases d1
  ·intro x k ds hm
   obtain ⟨_,⟨us,k',q2,_⟩,_⟩:=S''.vars x _ hm
   rw [eL] at q2; cases q2; rw [a6] at dL; cases dL
end
end
section
open PySem PySem.W PySem.Calls PyProof.Rows PySem.SeqAt
section
variable {W:Wd} {C:Cx} {n:Nat} {ρ ρ':aW}
mutual
noncomputable def kin:Nat->Dat->Dat->Bool
 | _,.int _,.int _=>true
 | _,.str _,.str _=>true
 | _,.bytes _,.bytes _=>true
 | k+1,.tuple ds,.tuple es=>g6 k ds es
 | k+1,.list ds,.list es=>g6 k ds es
 | _,_,_=>false
noncomputable def g6:Nat->List Dat->List Dat->Bool
 | k,d::ds,e::es=>kin k d e&&g6 k ds es
 | _,_,_=>true
end
mutual
noncomputable def eJ:Dat->Dat->Bool
 | .none,.none=>true
 | .bool a,.bool b=>a==b
 | .int a,.int b=>a==b
 | .str a,.str b=>a==b
 | .bytes a,.bytes b=>a.toList==b.toList
 | .tuple ds,.tuple es=>i6 ds es
 | .list ds,.list es=>i6 ds es
 | _,_=>false
noncomputable def i6:List Dat->List Dat->Bool
 | [],[]=>true
 | d::ds,e::es=>eJ d e&&i6 ds es
 | _,_=>false
end
theorem sC (a b:Int):eJ (.int a) (.int b)=(a==b):=rfl
theorem rC (a b:Str):eJ (.str a) (.str b)=(a==b):=rfl
theorem PM (a b:Array UInt8):eJ (.bytes a) (.bytes b)=(a.toList==b.toList):=rfl
theorem PK (a b:List Dat):eJ (.tuple a) (.tuple b)=i6 a b:=rfl
theorem IU (a b:List Dat):eJ (.list a) (.list b)=i6 a b:=rfl
theorem OI (d e:Dat) (ds es:List Dat):i6 (d::ds) (e::es)=(eJ d e&&i6 ds es):=rfl
theorem none_ {α:Type} {a:α} {p:Prop} (h:none=some a):p:=nomatch h
theorem jD {p:Prop} (h:false=true):p:=nomatch h
theorem cM (d:Dat):eJ d d=true:=
 Dat.rec (motive_1:=fun d=>eJ d d=true) (motive_2:=fun ds=>i6 ds ds=true) rfl (fun b=>beq_self_eq_true b) (fun b=>beq_self_eq_true b) (fun b=>beq_self_eq_true b) (fun b=>beq_self_eq_true b.toList) (fun _ h=>h) (fun _ h=>h) rfl (fun d ds h h2=>(Bool.and_eq_true_iff (x:=eJ d d) (y:=i6 ds ds)).mpr ⟨h,h2⟩) d
theorem MB (d:Dat):∀e,eJ d e=true->d=e:=
 Dat.rec (motive_1:=fun d=>∀e,eJ d e=true->d=e) (motive_2:=fun ds=>∀es,i6 ds es=true->ds=es)
  (fun e=>by cases e<;>first|exact jD|exact fun _=>rfl)
  (fun b e=>by cases e<;>first|exact jD|exact fun h=>congrArg _ (eq_of_beq h))
  (fun b e=>by cases e<;>first|exact jD|exact fun h=>congrArg _ (eq_of_beq h))
  (fun b e=>by cases e<;>first|exact jD|exact fun h=>congrArg _ (eq_of_beq h))
  (fun b e=>by cases e<;>first|exact jD|exact fun h=>congrArg _ (Array.toList_inj.mp (eq_of_beq h)))
  (fun ds ih e=>by cases e<;>first|exact jD|exact fun h=>congrArg _ (ih _ h))
  (fun ds ih e=>by cases e<;>first|exact jD|exact fun h=>congrArg _ (ih _ h))
  (fun es=>by cases es<;>first|exact jD|exact fun _=>rfl)
  (fun d ds h h2 es=>by cases es with
   | nil=>exact jD
   | cons e es=>exact fun z=>congr (congrArg _ (h _ (Bool.and_eq_true_iff.mp z).1)) (h2 _ (Bool.and_eq_true_iff.mp z).2)) d
theorem mE (d e:Dat):eJ d e=true↔d=e:=⟨MB d e,fun h=>h▸cM d⟩
theorem G3 (ds es:List Dat):i6 ds es=true↔ds=es:=(mE (.list ds) (.list es)).trans ⟨fun h=>Dat.list.inj h,congrArg _⟩
theorem v5 {ds es:List Dat} (h:ds.length≠es.length):i6 ds es=false:=
 eq_false_of_ne_true fun z=>h (congrArg _ ((G3 ds es).mp z))
noncomputable def mS (ds es:List Dat) (j:Nat):Bool:=match ds[j]?,es[j]? with
 | some d,some e=>eJ d e
 | _,_=>true
theorem tQ:∀ {ds es:List Dat},ds.length=es.length->(List.range ds.length).all (mS ds es)=i6 ds es:=fun {ds}=>by
 induction ds with
 | nil=>intro es h; cases es with
  | nil=>rfl
  | cons=>cases h
 | cons d ds ih=>intro es h; cases es with
  | nil=>cases h
  | cons e es =>
   rw [List.length_cons,List.range_succ_eq_map,List.all_cons,List.all_map,OI,←ih (Nat.succ.inj h)]
   rfl
theorem CY:∀(ds es:List Dat),((List.range (min ds.length es.length)).all (mS ds es)&&ds.length==es.length)=i6 ds es:=fun ds es=>by
 by_cases h:ds.length=es.length
 ·rw [←tQ h,h,Nat.min_self]; simp
 ·rw [v5 h]
  have:(ds.length==es.length)=false:=by simpa using h
  rw [this,Bool.and_false]
theorem DX {g:Gh} {a:Addr} {M:Dat->Prop} (ht:∀vs n ds,(a,({ cls:=.type "tuple",data:=.seq vs.toArray n }:Obj))∈g->DatAll g vs ds->M (.tuple ds)) (hl:∀vs n ds,(a,listOf vs.toArray n)∈g->DatAll g vs ds->M (.list ds)) {e:Dat} (h:DatIn g (.ref a) e):M e:=by
 cases h with
 | tuple m r=>exact ht _ _ _ m r
 | list m r=>exact hl _ _ _ m r
noncomputable def NB (o:Obj):List Value:=match o.data with
 | .seq a _=>a.toList
 | _=>[]
theorem uB {g:Gh} {h:Heap} (G:pE W g h) {a:Addr} {o o':Obj} (m:(a,o)∈g) (m':(a,o')∈g):o=o':=Option.some.inj ((G _ m).1.symm.trans (G _ m').1)
theorem w4 {x y:Array Value} {n k:Nat} (e:({ cls:=.type "tuple",data:=.seq x n }:Obj)=listOf y k):False:=absurd (show Value.type "tuple" = Value.type "list" from congrArg Obj.cls e) (by decide)
theorem LV {vs us:List Value} {n k:Nat} (e:({ cls:=.type "tuple",data:=.seq vs.toArray n }:Obj)={ cls:=.type "tuple",data:=.seq us.toArray k }):us=vs:=(congrArg NB e).symm
theorem MV {vs us:List Value} {n k:Nat} (e:listOf vs.toArray n=listOf us.toArray k):us=vs:=(congrArg NB e).symm
theorem nL {g:Gh} {h:Heap} (G:pE W g h) {v:Value} {d e:Dat} (h1:DatIn g v d):DatIn g v e->d=e:=
 DatIn.rec (motive_1:=fun v d _=>∀e,DatIn g v e->d=e) (motive_2:=fun vs ds _=>∀es,DatAll g vs es->ds=es)
  (fun _ h=>by cases h; rfl) (fun _ _ h=>by cases h; rfl) (fun _ _ _ h=>by cases h; rfl) (fun _ _ _ h=>by cases h; rfl) (fun _ _ _ h=>by cases h; rfl)
  (fun m _ ih e=>DX (fun _ _ ds' m2 r2=>congrArg _ (ih ds' (LV (uB G m m2)▸r2))) fun _ _ _ m2 _=>(w4 (uB G m m2)).elim)
  (fun m _ ih e=>DX (fun _ _ _ m2 _=>(w4 (uB G m2 m)).elim) fun _ _ ds' m2 r2=>congrArg _ (ih ds' (MV (uB G m m2)▸r2)))
  (fun _ h=>by cases h; rfl) (fun _ _ a b _ h=>by cases h with|cons h1 h2=>rw [a _ h1,b _ h2]) h1 e
theorem iM {g:Gh} {M:List Value->List Dat->Prop} (h0:M [] []) (hs:∀v vs d ds,DatIn g v d->DatAll g vs ds->M vs ds->M (v::vs) (d::ds)) {vs:List Value} {ds:List Dat} (h:DatAll g vs ds):M vs ds:=
 DatAll.rec (motive_1:=fun _ _ _=>True) (motive_2:=fun vs ds _=>M vs ds) trivial (fun _=>trivial) (fun _ _=>trivial) (fun _ _=>trivial) (fun _ _=>trivial) (fun _ _ _=>trivial) (fun _ _ _=>trivial) h0 (fun a r _ ih=>hs _ _ _ _ a r ih) h
theorem pR {A:Around} {s:Shared} {a b:Array UInt8} {t u:Tok}:EqAt A s (.bytes a t) (.bytes b u) (a.toList==b.toList):=fun prog w E Q hq=>by
 unfold eqBool
 refine wpAny_holding ?_
 refine wpAny_ite_split (fun hab=>?_) (fun _=>?_)
 ·have:Value.bytes a t=Value.bytes b u:=eq_of_beq hab
  cases this
  rw [beq_self_eq_true] at hq
  exact wpAny_bind (wpAny_rule (wpAny_pure hq))
 ·refine wpAny_bind ?_
  exact PySem.W.eq_bytes (wpAny_truthy_bool hq)
theorem D3 {k:Nat} {ds:List Dat}:∀ {es:List Dat} {j:Nat} {d e:Dat},g6 k ds es=true->ds[j]? = some d->es[j]? = some e->kin k d e=true:=by
 induction ds with
 | nil=>exact fun _ h=>nomatch h
 | cons a ds ih =>
  intro es j d e h h1 h2
  cases es with
  | nil=>exact nomatch h2
  | cons b es =>
   have h:=Bool.and_eq_true_iff.mp h
   cases j with
   | zero=>rw [←Option.some.inj h1,←Option.some.inj h2]; exact h.1
   | succ j=>exact ih h.2 h1 h2
noncomputable abbrev I1 (W:Wd) (k:Nat):Prop:=∀(A:Around) (s:Shared) (g:Gh) (v u:Value) (d e:Dat),A.units+k<cLine->pE W g s.heap->kin k d e=true->DatIn g v d->DatIn g u e->EqAt A s v u (eJ d e)
theorem iP {k:Nat} (ih:I1 W k) {A:Around} {s:Shared} {g:Gh} {vs us:List Value} {ds es:List Dat} (hu:A.units+(k+1)<cLine) (G:pE W g s.heap) (hk:g6 k ds es=true) (r1:DatAll g vs ds) (r2:DatAll g us es) :
  ∀q (h1:q<vs.toArray.size) (h2:q<us.toArray.size),EqAt A.in1 s vs.toArray[q] us.toArray[q] (mS ds es q):=fun q h1 h2=>by
 have l1:=r1.length
 have l2:=r2.length
 have h1':q<ds.length:=by simpa [l1] using h1
 have h2':q<es.length:=by simpa [l2] using h2
 obtain ⟨x,e1,D1⟩:=r1.get h1'
 obtain ⟨y,e2,D2⟩:=r2.get h2'
 have q1:vs.toArray[q]=x:=by
  have:vs[q]? = some vs[q]:=List.getElem?_eq_getElem (by simpa using h1)
  rw [this] at e1; cases e1; simp
 have q2:us.toArray[q]=y:=by
  have:us[q]? = some us[q]:=List.getElem?_eq_getElem (by simpa using h2)
  rw [this] at e2; cases e2; simp
 rw [q1,q2]
 have pe:mS ds es q=eJ ds[q] es[q]:=by
  unfold mS
  rw [List.getElem?_eq_getElem h1',List.getElem?_eq_getElem h2']
 rw [pe]
 exact ih A.in1 s g x y _ _ (by show A.units+1+k<cLine; lia) G (D3 hk (List.getElem?_eq_getElem h1') (List.getElem?_eq_getElem h2')) D1 D2
theorem nQ {k:Nat} (ih:I1 W k) {A:Around} {s:Shared} {g:Gh} {a b:Addr} {i j:Nat} {vs us:List Value} {ds es:List Dat} (hu:A.units+(k+1)<cLine) (G:pE W g s.heap) (hk:g6 k ds es=true)
  (m1:(a,({ cls:=.type "tuple",data:=.seq vs.toArray i }:Obj))∈g) (r1:DatAll g vs ds) (m2:(b,({ cls:=.type "tuple",data:=.seq us.toArray j }:Obj))∈g) (r2:DatAll g us es) :
  RcAt A s (.ref a) (.ref b) (i6 ds es)/\RcNeAt A s (.ref a) (.ref b) (!i6 ds es):=by
 have t1:s.heap.IsTuple a vs.toArray:=⟨_,(G _ m1).1,rfl,i,rfl⟩
 have t2:s.heap.IsTuple b us.toArray:=⟨_,(G _ m2).1,rfl,j,rfl⟩
 have sz1:vs.toArray.size=ds.length:=by rw [List.size_toArray,r1.length]
 have sz2:us.toArray.size=es.length:=by rw [List.size_toArray,r2.length]
 have key:=RcAt.tuples (A:=A) (e:=mS ds es) t1 t2 (by lia) (iP ih hu G hk r1 r2)
 have key2:=RcNeAt.tuples (A:=A) (e:=mS ds es) t1 t2 (by lia) (iP ih hu G hk r1 r2)
 rw [sz1,sz2,CY] at key key2
 exact ⟨key,key2⟩
theorem qL {k:Nat} (ih:I1 W k) {A:Around} {s:Shared} {g:Gh} {a b:Addr} {i j:Nat} {vs us:List Value} {ds es:List Dat} (hu:A.units+(k+1)<cLine) (G:pE W g s.heap) (hk:g6 k ds es=true)
  (m1:(a,listOf vs.toArray i)∈g) (r1:DatAll g vs ds) (m2:(b,listOf us.toArray j)∈g) (r2:DatAll g us es) :
  RcAt A s (.ref a) (.ref b) (i6 ds es)/\RcNeAt A s (.ref a) (.ref b) (!i6 ds es):=by
 have t1:s.heap.IsList a vs.toArray:=⟨_,(G _ m1).1,rfl,i,rfl⟩
 have t2:s.heap.IsList b us.toArray:=⟨_,(G _ m2).1,rfl,j,rfl⟩
 have sz1:vs.toArray.size=ds.length:=by rw [List.size_toArray,r1.length]
 have sz2:us.toArray.size=es.length:=by rw [List.size_toArray,r2.length]
 by_cases hsz:ds.length=es.length
 ·have key:=RcAt.lists (A:=A) (e:=mS ds es) t1 t2 (by simp only [sz1,sz2,hsz]) (by lia) (iP ih hu G hk r1 r2)
  have key2:=RcNeAt.lists (A:=A) (e:=mS ds es) t1 t2 (by simp only [sz1,sz2,hsz]) (by lia) (iP ih hu G hk r1 r2)
  rw [sz1,tQ hsz] at key key2
  exact ⟨key,key2⟩
 ·rw [v5 hsz]
  have hb:(vs.toArray.size != us.toArray.size)=true:=by rw [sz1,sz2]; simpa using hsz
  exact ⟨RcAt.lists_lengths t1 t2 hb (by lia),RcNeAt.lists_lengths t1 t2 hb (by lia)⟩
@[elab_as_elim] theorem cA {g:Gh} {M:Value->Prop} {i:Int} (h:∀t,M (.int i t)) {v:Value} (hv:DatIn g v (.int i)):M v:=by cases hv; exact h _
@[elab_as_elim] theorem cE {g:Gh} {M:Value->Prop} {x:Str} (h:∀t,M (.str x t)) {v:Value} (hv:DatIn g v (.str x)):M v:=by cases hv; exact h _
@[elab_as_elim] theorem IH {g:Gh} {M:Value->Prop} {b:Bool} (h:M (.bool b)) {v:Value} (hv:DatIn g v (.bool b)):M v:=by cases hv; exact h
@[elab_as_elim] theorem kG {g:Gh} {M:Value->Prop} {b:Array UInt8} (h:∀t,M (.bytes b t)) {v:Value} (hv:DatIn g v (.bytes b)):M v:=by cases hv; exact h _
@[elab_as_elim] theorem cR {g:Gh} {M:Value->Prop} {ds:List Dat} (h:∀a vs n,(a,listOf vs.toArray n)∈g->DatAll g vs ds->M (.ref a)) {v:Value} (hv:DatIn g v (.list ds)):M v:=by cases hv with|list m r=>exact h _ _ _ m r
@[elab_as_elim] theorem j4 {g:Gh} {M:Value->Prop} {ds:List Dat} (h:∀a vs n,(a,({ cls:=.type "tuple",data:=.seq vs.toArray n }:Obj))∈g->DatAll g vs ds->M (.ref a)) {v:Value} (hv:DatIn g v (.tuple ds)):M v:=by cases hv with|tuple m r=>exact h _ _ _ m r
@[elab_as_elim] theorem K6 {g:Gh} {M:List Value->Prop} (h:M []) {vs:List Value} (hv:DatAll g vs []):M vs:=by cases hv; exact h
@[elab_as_elim] theorem xU {g:Gh} {M:List Value->Prop} {d:Dat} {ds:List Dat} (h:∀v vs,DatIn g v d->DatAll g vs ds->M (v::vs)) {vs:List Value} (hv:DatAll g vs (d::ds)):M vs:=by cases hv with|cons h1 r=>exact h _ _ h1 r
@[elab_as_elim] theorem qK {g:Gh} {M:List Value->Prop} {a:Dat} (h:∀v,DatIn g v a->M [v]) {vs:List Value} (hv:DatAll g vs [a]):M vs:=xU (M:=M) (fun v _ h1 r=>K6 (M:=fun l=>M (v::l)) (h v h1) r) hv
@[elab_as_elim] theorem sB {g:Gh} {M:List Value->Prop} {a b:Dat} (h:∀v u,DatIn g v a->DatIn g u b->M [v,u]) {vs:List Value} (hv:DatAll g vs [a,b]):M vs:=xU (M:=M) (fun v _ h1 r=>qK (M:=fun l=>M (v::l)) (fun u h2=>h v u h1 h2) r) hv
@[elab_as_elim] theorem OF {g:Gh} {M:List Value->Prop} {a b c:Dat} (h:∀v u w,DatIn g v a->DatIn g u b->DatIn g w c->M [v,u,w]) {vs:List Value} (hv:DatAll g vs [a,b,c]):M vs:=xU (M:=M) (fun v _ h1 r=>sB (M:=fun l=>M (v::l)) (fun u w h2 h3=>h v u w h1 h2 h3) r) hv
@[elab_as_elim] theorem QB {g:Gh} {M:List Value->Prop} {a b c d:Dat} (h:∀v u w x,DatIn g v a->DatIn g u b->DatIn g w c->DatIn g x d->M [v,u,w,x]) {vs:List Value} (hv:DatAll g vs [a,b,c,d]):M vs:=xU (M:=M) (fun v _ h1 r=>OF (M:=fun l=>M (v::l)) (fun u w x h2 h3 h4=>h v u w x h1 h2 h3 h4) r) hv
theorem CT {K:Nat} {P:Dat->Dat->Prop} (hi:∀i j,P (.int i) (.int j)) (hs:∀i j,P (.str i) (.str j)) (hb:∀i j,P (.bytes i) (.bytes j)) (ht:∀k ds es,K=k+1->g6 k ds es=true->P (.tuple ds) (.tuple es)) (hl:∀k ds es,K=k+1->g6 k ds es=true->P (.list ds) (.list es)) (d e:Dat):kin K d e=true->P d e:=by
 cases d with
 | none=>exact jD
 | bool=>exact jD
 | int i=>cases e with
  | int j=>exact fun _=>hi i j
  | _=>exact jD
 | str i=>cases e with
  | str j=>exact fun _=>hs i j
  | _=>exact jD
 | bytes i=>cases e with
  | bytes j=>exact fun _=>hb i j
  | _=>exact jD
 | tuple ds=>cases K with
  | zero=>exact jD
  | succ k=>cases e with
   | tuple es=>exact ht k ds es rfl
   | _=>exact jD
 | list ds=>cases K with
  | zero=>exact jD
  | succ k=>cases e with
   | list es=>exact hl k ds es rfl
   | _=>exact jD
theorem pC {g:Gh} {K:Nat} {M:Value->Value->Dat->Dat->Prop} (hi:∀i t j u,M (.int i t) (.int j u) (.int i) (.int j)) (hs:∀i t j u,M (.str i t) (.str j u) (.str i) (.str j)) (hb:∀i t j u,M (.bytes i t) (.bytes j u) (.bytes i) (.bytes j))
  (ht:∀ {k a vs n ds b us m es},K=k+1->g6 k ds es=true->(a,({ cls:=.type "tuple",data:=.seq vs.toArray n }:Obj))∈g->DatAll g vs ds->(b,({ cls:=.type "tuple",data:=.seq us.toArray m }:Obj))∈g->DatAll g us es->M (.ref a) (.ref b) (.tuple ds) (.tuple es))
  (hl:∀ {k a vs n ds b us m es},K=k+1->g6 k ds es=true->(a,listOf vs.toArray n)∈g->DatAll g vs ds->(b,listOf us.toArray m)∈g->DatAll g us es->M (.ref a) (.ref b) (.list ds) (.list es))
  (d e:Dat) {v u:Value} (hk:kin K d e=true):DatIn g v d->DatIn g u e->M v u d e:=
 CT (P:=fun d e=>DatIn g v d->DatIn g u e->M v u d e) (fun i j h1 h2=>cA (M:=fun v=>M v u _ _) (fun t=>cA (M:=fun u=>M (.int i t) u _ _) (fun t'=>hi i t j t') h2) h1)
  (fun i j h1 h2=>cE (M:=fun v=>M v u _ _) (fun t=>cE (M:=fun u=>M (.str i t) u _ _) (fun t'=>hs i t j t') h2) h1)
  (fun i j h1 h2=>kG (M:=fun v=>M v u _ _) (fun t=>kG (M:=fun u=>M (.bytes i t) u _ _) (fun t'=>hb i t j t') h2) h1)
  (fun k ds es e hk h1 h2=>j4 (M:=fun v=>M v u _ _) (fun a vs n m1 r1=>j4 (M:=fun u=>M (.ref a) u _ _) (fun b us m m2 r2=>ht e hk m1 r1 m2 r2) h2) h1)
  (fun k ds es e hk h1 h2=>cR (M:=fun v=>M v u _ _) (fun a vs n m1 r1=>cR (M:=fun u=>M (.ref a) u _ _) (fun b us m m2 r2=>hl e hk m1 r1 m2 r2) h2) h1) d e hk
theorem iX:∀k:Nat,I1 W k:=by
 intro k
 induction k with
 | zero=>exact fun A s g v u d e hu G hk h1 h2=>pC (M:=fun v u d e=>EqAt A s v u (eJ d e)) (fun _ _ _ _=>EqAt.int_int _ _ _ _) (fun _ _ _ _=>EqAt.str_str _ _ _ _) (fun _ _ _ _=>pR) (fun h=>absurd h (Nat.succ_ne_zero _).symm) (fun h=>absurd h (Nat.succ_ne_zero _).symm) d e hk h1 h2
 | succ k ih =>
  refine fun A s g v u d e hu G hk h1 h2=>pC (M:=fun v u d e=>EqAt A s v u (eJ d e)) (fun _ _ _ _=>EqAt.int_int _ _ _ _) (fun _ _ _ _=>EqAt.str_str _ _ _ _) (fun _ _ _ _=>pR) (fun {k' a vs n ds b us m es} hK hk m1 r1 m2 r2=>?_) (fun {k' a vs n ds b us m es} hK hk m1 r1 m2 r2=>?_) d e hk h1 h2
  ·cases hK
   by_cases hab:a=b
   ·subst hab
    rw [nL G (.tuple m1 r1) (.tuple m2 r2),cM]
    exact EqAt.same _
   ·exact EqAt.of_refs hab (nQ ih hu G hk m1 r1 m2 r2).1
  ·cases hK
   by_cases hab:a=b
   ·subst hab
    rw [nL G (.list m1 r1) (.list m2 r2),cM]
    exact EqAt.same _
   ·exact EqAt.of_refs hab (qL ih hu G hk m1 r1 m2 r2).1
theorem gV {d e:Dat} (hk:kin 8 d e=true):lJ W (n+1) (compareOp .Eq) d e (.bool (eJ d e)):=fun A s g E v u R B h1 h2 =>
 have hu:=R.cl
 pC (M:=fun v u d e=>wpAny (model W.prog W.w) A (compareOp .Eq v u) (fun w s'=>∃g',Ext W s g s' g'/\DatIn g' w (.bool (eJ d e))) E s) (fun _ _ _ _=>RcAt.int_int _ _ _ _ _ _ _ _ (aZ B (.bool _))) (fun _ _ _ _=>RcAt.str_str _ _ _ _ _ _ _ _ (aZ B (.bool _))) (fun _ _ _ _=>PySem.W.eq_bytes (aZ B (.bool _)))
  (fun hK hk m1 r1 m2 r2=>by cases hK; exact (nQ (iX 7) (by lia) B.gok hk m1 r1 m2 r2).1 _ _ _ _ (aZ B (.bool _)))
  (fun hK hk m1 r1 m2 r2=>by cases hK; exact (qL (iX 7) (by lia) B.gok hk m1 r1 m2 r2).1 _ _ _ _ (aZ B (.bool _))) d e hk h1 h2
theorem gW {d e:Dat} (hk:kin 8 d e=true):lJ W (n+1) (compareOp .NotEq) d e (.bool (!eJ d e)):=fun A s g E v u R B h1 h2 =>
 have hu:=R.cl
 pC (M:=fun v u d e=>wpAny (model W.prog W.w) A (compareOp .NotEq v u) (fun w s'=>∃g',Ext W s g s' g'/\DatIn g' w (.bool (!eJ d e))) E s) (fun _ _ _ _=>RcNeAt.int_int _ _ _ _ _ _ _ _ (aZ B (.bool _))) (fun _ _ _ _=>RcNeAt.str_str _ _ _ _ _ _ _ _ (aZ B (.bool _))) (fun _ _ _ _=>PySem.W.ne_bytes (aZ B (.bool _)))
  (fun hK hk m1 r1 m2 r2=>by cases hK; exact (nQ (iX 7) (by lia) B.gok hk m1 r1 m2 r2).2 _ _ _ _ (aZ B (.bool _)))
  (fun hK hk m1 r1 m2 r2=>by cases hK; exact (qL (iX 7) (by lia) B.gok hk m1 r1 m2 r2).2 _ _ _ _ (aZ B (.bool _))) d e hk h1 h2
noncomputable def r6 (g:Gh) (v:Value):Dat:=open Classical in if h:∃d,DatIn g v d then h.choose else .none
theorem q8 {g:Gh} {h:Heap} (G:pE W g h) {v:Value} {d:Dat} (hd:DatIn g v d):r6 g v=d:=by
 have hx:∃d,DatIn g v d:=⟨d,hd⟩
 unfold r6
 rw [dif_pos hx]
 exact nL G hx.choose_spec hd
theorem vE {g:Gh} {h:Heap} (G:pE W g h) (d:Dat) {vs:List Value} {ds:List Dat} (r:DatAll g vs ds):vs.any (fun y=>eJ (r6 g y) d)=ds.any fun y=>eJ y d:=
 iM (M:=fun vs ds=>vs.any (fun y=>eJ (r6 g y) d)=ds.any fun y=>eJ y d) rfl (fun v vs e ds h1 _ ih=>by rw [List.any_cons,List.any_cons,ih,q8 G h1]) r
theorem KF {g:Gh} {vs:List Value} {ds:List Dat} (r:DatAll g vs ds):∀y∈vs,∃d∈ds,DatIn g y d:=
 iM (M:=fun vs ds=>∀y∈vs,∃d∈ds,DatIn g y d) (fun _ h=>nomatch h) (fun v vs e ds h1 _ ih y hy=>(List.mem_cons.mp hy).elim (fun q=>⟨e,List.mem_cons_self,q▸h1⟩) fun q=>(ih y q).elim fun d z=>⟨d,List.mem_cons_of_mem _ z.1,z.2⟩) r
theorem mF {k:Nat} {A:Around} {s:Shared} {g:Gh} {vs:List Value} {ds:List Dat} {x:Value} {d:Dat} (hu:A.units+(k+1)<cLine) (G:pE W g s.heap) (r:DatAll g vs ds) (hx:DatIn g x d) (hk:∀y∈ds,kin k y d=true) :
  ∀y,y∈vs.toArray->EqAt A.in1 s y x (eJ (r6 g y) d):=fun y hy=>by
 obtain ⟨e,hq⟩:=KF r y (by simpa using hy); have he:=hq.1; have hD:=hq.2
 rw [q8 G hD]
 exact iX k A.in1 s g y x e d (by show A.units+1+k<cLine; lia) G (hk e he) hD hx
theorem qB {d:Dat} {ds:List Dat} (hk:∀y∈ds,kin 8 y d=true):lJ W (n+1) (compareOp .In) d (.list ds) (.bool (ds.any fun y=>eJ y d)):=fun A s g E v u R B h1 h2=>by
 have hu:=R.cl
 refine cR (fun a vs n m r=>?_) h2
 ·exact in_listAt _ ⟨_,(B.gok _ m).1,rfl,_,rfl⟩ (mF (by lia) B.gok r h1 hk) (by rw [←Array.any_toList]; rw [vE B.gok d r]; exact aZ B (.bool _))
theorem eF {d:Dat} {ds:List Dat} (hk:∀y∈ds,kin 8 y d=true):lJ W (n+1) (compareOp .NotIn) d (.list ds) (.bool (!ds.any fun y=>eJ y d)):=fun A s g E v u R B h1 h2=>by
 have hu:=R.cl
 refine cR (fun a vs n m r=>?_) h2
 ·exact notIn_listAt _ ⟨_,(B.gok _ m).1,rfl,_,rfl⟩ (mF (by lia) B.gok r h1 hk) (by rw [←Array.any_toList]; rw [vE B.gok d r]; exact aZ B (.bool _))
theorem x7 {d:Dat} {ds:List Dat} (hk:∀y∈ds,kin 8 y d=true):lJ W (n+1) (compareOp .In) d (.tuple ds) (.bool (ds.any fun y=>eJ y d)):=fun A s g E v u R B h1 h2=>by
 have hu:=R.cl
 refine j4 (fun a vs n m r=>?_) h2
 ·exact in_tupleAt _ ⟨_,(B.gok _ m).1,rfl,_,rfl⟩ (mF (by lia) B.gok r h1 hk) (by rw [←Array.any_toList]; rw [vE B.gok d r]; exact aZ B (.bool _))
theorem LF {M:Nat->Prop} {n x:Nat} (hx:x<n+1) (h0:M 0) (hS:∀y,y<n->M (y+1)):M x:=by
 cases x with
 | zero=>exact h0
 | succ y=>exact hS y (Nat.lt_of_succ_lt_succ hx)
@[elab_as_elim] theorem F8 {M:Nat->Prop} {x:Nat} (hx:x<5) (h0:M 0) (h1:M 1) (h2:M 2) (h3:M 3) (h4:M 4):M x:=
 LF (n:=4) hx h0 fun y hy=>LF (M:=fun y=>M (y+1)) (n:=3) hy h1 fun y hy=>LF (M:=fun y=>M (y+2)) (n:=2) hy h2 fun y hy=>LF (M:=fun y=>M (y+3)) (n:=1) hy h3 fun y hy=>LF (M:=fun y=>M (y+4)) (n:=0) hy h4 fun y hy=>absurd hy (Nat.not_lt_zero y)
@[elab_as_elim] theorem lt7 {M:Nat->Prop} {x:Nat} (hx:x<7) (h0:M 0) (h1:M 1) (h2:M 2) (h3:M 3) (h4:M 4) (h5:M 5) (h6:M 6):M x:=
 LF (n:=6) hx h0 fun y hy=>LF (M:=fun y=>M (y+1)) (n:=5) hy h1 fun y hy=>F8 (M:=fun y=>M (y+2)) hy h2 h3 h4 h5 h6
end
section
variable {W:Wd} {C:Cx} {n:Nat} {ρ ρ':aW}
theorem DT {op:Value->Value->Sem Value} {a b:Int} {d:Dat} (h:∀(A:Around) (s:Shared) (g:Gh) (E:Value->Shared->Prop) (t u:Tok),Base W s g->wpAny (model W.prog W.w) A (op (.int a t) (.int b u)) (fun v s'=>∃g',Ext W s g s' g'/\DatIn g' v d) E s):lJ W n op (.int a) (.int b) d:=fun A s g E v u R B h1 h2=>by
 exact cA (fun t=>cA (fun u=>h A s g E t u B) h2) h1
theorem rB {a b:Int}:lJ W n (binaryOp .Add) (.int a) (.int b) (.int (a+b)):=DT fun A s g E t u B=>add_int (bD B (.int _ _))
theorem MY {a b:Int}:lJ W n (binaryOp .Sub) (.int a) (.int b) (.int (a-b)):=DT fun A s g E t u B=>sub_int (bD B (.int _ _))
theorem lU {a b:Int} (hb:b≠0):lJ W n (binaryOp .Mod) (.int a) (.int b) (.int (a.fmod b)):=DT fun A s g E t u B=>mod_int' hb (bD B (.int _ _))
theorem vK {a b:Int} (hb:b≠0) (hs:Builtin.divisionGoesByPylong a b=false):lJ W n (binaryOp .FloorDiv) (.int a) (.int b) (.int (a.fdiv b)):=DT fun A s g E t u B=>floordiv_int hb (bD B (.int _ _)) (.inl hs)
theorem t9 {a b:Int} (hb:0<=b) (hs:(Builtin.Int.intBits a:Int)*b<=2^27):lJ W n (binaryOp .Pow) (.int a) (.int b) (.int (a^b.toNat)):=DT fun A s g E t u B=>pow_int hb hs (bD B (.int _ _))
theorem yT {a b:Int}:lJ W n (binaryOp .BitAnd) (.int a) (.int b) (.int (Builtin.bitAnd a b)):=DT fun A s g E t u B=>and_int (bD B (.int _ _))
theorem ET {a b:Int}:lJ W n (binaryOp .BitOr) (.int a) (.int b) (.int (Builtin.bitOr a b)):=DT fun A s g E t u B=>or_int (bD B (.int _ _))
theorem JP {a b:Int}:lJ W n (inplaceOp .Add) (.int a) (.int b) (.int (a+b)):=DT fun A s g E t u B=>P.iadd_int (bD B (.int _ _))
theorem I6 {a b:Int}:lJ W n (inplaceOp .Sub) (.int a) (.int b) (.int (a-b)):=DT fun A s g E t u B=>P.isub_int (bD B (.int _ _))
theorem tG {a b:Int}:lJ W n (compareOp .Lt) (.int a) (.int b) (.bool (decide (a<b))):=DT fun A s g E t u B=>P.lt_int (aZ B (.bool _))
theorem KY {a b:Int}:lJ W n (compareOp .Gt) (.int a) (.int b) (.bool (decide (a>b))):=DT fun A s g E t u B=>P.gt_int (aZ B (.bool _))
theorem NZ {a b:Int}:lJ W n (compareOp .GtE) (.int a) (.int b) (.bool (decide (a>=b))):=DT fun A s g E t u B=>P.ge_int (aZ B (.bool _))
theorem iU {a:Int}:P0 W n (unaryOp .USub) (.int a) (.int (-a)):=fun A s g E v R B h=>cA (fun _=>P.neg_int (bD B (.int _ _))) h
theorem DA {a:Int}:P0 W n (unaryOp .Invert) (.int a) (.int (Builtin.bitNot a)):=fun A s g E v R B h=>cA (fun _=>invert_int (bD B (.int _ _))) h
theorem fN {op:UnaryOp} {x:Expr} {pos:Pos} {d d':Dat} (h:Ev W C n ρ x d) (o:P0 W n (unaryOp op) d d'):Ev W C n ρ (.UnaryOp op x pos) d':=fun A s g E R S =>
 wpAny_UnaryOp (go3 (h A s g E R S) (fun v s₁ g₁ x₁ hM=>go3 (o A s₁ g₁ E v R (S.step x₁).base hM) (fun v s₂ g₂ x₂ hU=>⟨g₂,x₁.trans x₂,hU⟩)))
noncomputable def RF:Dat->Option Bool
 | .bool b=>some b
 | _=>none
noncomputable def M0:Dat->Bool
 | .none=>true
 | _=>false
noncomputable def OZ (d e:Dat):Option Bool:=match d with
 | .none=>if M0 e=true then some true else none
 | .bool a=>if M0 e=true then some false else (RF e).map (a == ·)
 | .int _=>none
 | .str _=>none
 | .bytes _=>none
 | .tuple _=>if M0 e=true then some false else none
 | .list _=>if M0 e=true then some false else none
theorem t0 {e:Dat}:M0 e=true->e=.none:=by cases e<;>first|exact jD|exact fun _=>rfl
theorem MM {e:Dat} {b:Bool}:RF e=some b->e=.bool b:=by cases e<;>first|exact none_|exact fun h=>congrArg _ (Option.some.inj h)
theorem rF {α:Type} {c:Prop} [Decidable c] {x b:α} (h:(if c then some x else none)=some b):c/\x=b:=by
 by_cases hc:c
 ·exact ⟨hc,Option.some.inj ((if_pos hc).symm.trans h)⟩
 ·exact none_ ((if_neg hc).symm.trans h)
@[elab_as_elim] theorem pG {g:Gh} {M:Value->Prop} (h:M .none) {v:Value} (hv:DatIn g v .none):M v:=by cases hv; exact h
theorem ER {g:Gh} {v u:Value} {d e:Dat} {b:Bool} (h1:DatIn g v d) (h2:DatIn g u e) (hb:OZ d e=some b):plainIs v u=true/\(v==u)=b:=by
 revert g v u d e b;refine no_implicit_lambda%(hK6 ?_);generalize (HK6 _).1=g,(HK6 _).2.1=v,(HK6 _).2.2.1=u,(HK6 _).2.2.2.1=d,(HK6 _).2.2.2.2.1=e,(HK6 _).2.2.2.2.2=b;intro h1 h2 hb
 cases h1 with
 | none=>have hq:=rF hb; rw [t0 hq.1] at h2; rw [←hq.2]; exact pG ⟨rfl,rfl⟩ h2
 | bool a =>
  by_cases hn:M0 e=true
  ·rw [t0 hn] at h2
   rw [←Option.some.inj ((if_pos hn).symm.trans hb)]
   exact pG ⟨rfl,rfl⟩ h2
  ·obtain ⟨c,hc⟩:=Option.map_eq_some_iff.mp ((if_neg hn).symm.trans hb)
   rw [MM hc.1] at h2
   rw [←hc.2]
   exact IH (by cases a<;>cases c<;>exact ⟨rfl,rfl⟩) h2
 | tuple m r=>have hq:=rF hb; rw [t0 hq.1] at h2; rw [←hq.2]; exact pG ⟨rfl,rfl⟩ h2
 | list m r=>have hq:=rF hb; rw [t0 hq.1] at h2; rw [←hq.2]; exact pG ⟨rfl,rfl⟩ h2
 | _=>exact none_ hb
theorem NX {d e:Dat} {b:Bool} (hb:OZ d e=some b):lJ W n (compareOp .Is) d e (.bool b):=fun A s g E v u R B h1 h2 =>
 have hq:=ER h1 h2 hb
 wpAny_is_plain hq.1 (by rw [hq.2]; exact aZ B (.bool _))
theorem d8 {d e:Dat} {b:Bool} (hb:OZ d e=some b):lJ W n (compareOp .IsNot) d e (.bool (!b)):=fun A s g E v u R B h1 h2 =>
 have hq:=ER h1 h2 hb
 wpAny_isNot_plain hq.1 (by rw [hq.2]; exact aZ B (.bool _))
theorem cI {x y:Str} (hz:x.length+y.length<=sizeLine):lJ W n (binaryOp .Add) (.str x) (.str y) (.str (x++y)):=fun A s g E v u R B h1 h2=>by
 refine cE (fun _=>?_) h1
 refine cE (fun _=>?_) h2
 exact SB.add (fun t' k=>bD B (.str _ _)) hz
theorem C2 {x y:Str}:lJ W n (compareOp .NotIn) (.str y) (.str x) (.bool (!Txt.contains x y)):=fun A s g E v u R B h1 h2=>by
 refine cE (fun _=>?_) h1
 refine cE (fun _=>?_) h2
 exact SB.notContains (aZ B (.bool _))
theorem fQ {id:String} {name x:Str} {ds:List Dat} {d:Dat} (slot:Slot "str" name id) (ty:typeOf (.builtin id)=pure (.type "method_descriptor")) (h:H0 W n (fun vs=>call (.builtin id) vs) (.str x::ds) d):IsMeth W n (.str x) name ds d:=
 ⟨"str",id,F.plainAttrs_str,slot,ty,fun s g v _ hv=>cE (fun _=>⟨typeIs_str _ _ _,fun a e=>nomatch e⟩) hv,h⟩
theorem AG {f:List Value->Sem Value} {x:Str} {d:Dat} (h:∀(A:Around) (s:Shared) (g:Gh) (E:Value->Shared->Prop) (t:Tok),Base W s g->wpAny (model W.prog W.w) A (f [.str x t]) (fun v s'=>∃g',Ext W s g s' g'/\DatIn g' v d) E s):H0 W n f [.str x] d:=fun A s g E vs R B hv=>by
 refine qK (fun v h1=>?_) hv
 refine cE (fun t=>?_) h1
 exact h A s g E _ B
theorem AI {f:List Value->Sem Value} {x y:Str} {d:Dat} (h:∀(A:Around) (s:Shared) (g:Gh) (E:Value->Shared->Prop) (t u:Tok),Base W s g->wpAny (model W.prog W.w) A (f [.str x t,.str y u]) (fun v s'=>∃g',Ext W s g s' g'/\DatIn g' v d) E s):H0 W n f [.str x,.str y] d:=fun A s g E vs R B hv=>by
 refine sB (fun v u h1 h2=>?_) hv
 refine cE (fun t=>?_) h1
 refine cE (fun t'=>?_) h2
 exact h A s g E _ _ B
theorem BJ {x:Str} (hf:Builtin.Str.tooLong (Txt.lower x).length=false):IsMeth W n (.str x) "lower" [] (.str (Txt.lower x)):=fQ F.slot_str_lower F.type_str_lower (AG fun A s g E t B=>SC.lower hf (bD B (.str _ _)))
theorem t7 {x:Str} (hf:Builtin.Str.tooLong (Txt.upper x).length=false):IsMeth W n (.str x) "upper" [] (.str (Txt.upper x)):=fQ F.slot_str_upper F.type_str_upper (AG fun A s g E t B=>SC.upper hf (bD B (.str _ _)))
theorem vR {x y:Str}:IsMeth W n (.str x) "startswith" [.str y] (.bool (Txt.startswith x y)):=fQ F.slot_str_startswith F.type_str_startswith (AI fun A s g E t u B=>SC.startswith (aZ B (.bool _)))
theorem LZ {x y:Str}:IsMeth W n (.str x) "endswith" [.str y] (.bool (Txt.endswith x y)):=fQ F.slot_str_endswith F.type_str_endswith (AI fun A s g E t u B=>SC.endswith (aZ B (.bool _)))
theorem I0 {x y:Str}:IsMeth W n (.str x) "rfind" [.str y] (.int (Txt.rfind x y)):=fQ F.slot_str_rfind F.type_str_rfind (AI fun A s g E t u B=>SC.rfind (bD B (.int _ _)))
theorem zZ {x y:Str} {i:Nat} {rest:List Nat} (ho:Builtin.Str.occurrences x y 0 x.length 1=i::rest):IsMeth W n (.str x) "index" [.str y] (.int i):=fQ F.slot_str_index F.type_str_index (AI fun A s g E t u B=>SC.index ho (bD B (.int _ _)))
structure SubOp (W:Wd) (n:Nat) (d i r:Dat):Prop where
 ok:∀(A:Around) (s:Shared) (g:Gh) (E:Value->Shared->Prop) (v u:Value),Room n A->Base W s g->DatIn g v d->DatIn g u i->∃T id,typeLookup (.type T) "__getitem__" = pure (some (.builtin id))/\s.TypeIs v T /\
  wpAny (model W.prog W.w) A (getItem v u) (fun v s'=>∃g',Ext W s g s' g'/\DatIn g' v r) E s
theorem uR {x:Str} {i:Int} (hr:fitsSsize i=true) (hin:(Txt.charAt x i).isSome=true):SubOp W n (.str x) (.int i) (.str (Txt.item x i)):=⟨fun A s g E v u R B h1 h2=>by
 refine cE (fun _=>?_) h1
 refine cA (fun _=>?_) h2
 exact ⟨"str",_,F.slot_str_getitem.lookup,typeIs_str _ _ _,SB.getItem hr hin (bD B (.str _ _))⟩⟩
theorem DatAll.at {g:Gh} {vs:List Value} {ds:List Dat} (h:DatAll g vs ds) {k:Nat} {d:Dat} (hk:ds[k]? = some d):∃v,vs.toArray[k]? = some v/\DatIn g v d:=by
 obtain ⟨hlt,e⟩:=List.getElem?_eq_some_iff.mp hk
 obtain ⟨v,hq⟩:=h.get hlt; have e1:=hq.1; have hD:=hq.2
 exact ⟨v,by simpa using e1,e▸hD⟩
theorem dB {ds:List Dat} {i:Int} {d:Dat} (h0:0<=i) (hfit:i<2^63) (hk:ds[i.toNat]? = some d):SubOp W n (.list ds) (.int i) d:=⟨fun A s g E v u R B h1 h2=>by
 refine cA (fun _=>?_) h2
 refine cR (fun a vs k m r=>?_) h1
 ·obtain ⟨v,hq⟩:=DatAll.at r hk; have e:=hq.1; have hD:=hq.2
  exact ⟨"list",_,list_getitem_lookup,(cK B m).typeIs,wpAny_getItem_list (cK B m) h0 hfit e (aZ B hD)⟩⟩
theorem kT {ds:List Dat} {i:Int} {d:Dat} (h0:i<0) (h1:-(ds.length:Int)<=i) (hfit:-(2^63)<=i) (hk:ds[(i+ds.length).toNat]? = some d):SubOp W n (.list ds) (.int i) d:=⟨fun A s g E v u R B q1 q2=>by
 refine cA (fun _=>?_) q2
 refine cR (fun a vs k m r=>?_) q1
 ·obtain ⟨v,e,hD⟩:=DatAll.at r hk
  have hz:vs.toArray.size=ds.length:=by rw [List.size_toArray,r.length]
  exact ⟨"list",_,list_getitem_lookup,(cK B m).typeIs,wpAny_getItem_list_neg (cK B m) h0 (by rw [hz]; exact h1) hfit (by rw [hz]; exact e) (aZ B hD)⟩⟩
noncomputable def AD:Expr->Bool
 | .Name _ _=>true
 | .Constant _ _ _=>true
 | .UnaryOp _ _ _=>true
 | .BinOp _ _ _ _=>true
 | _=>false
theorem sI {A:Around} {E:Value->Shared->Prop} {s:Shared} {env:Env} {Q:Value->Shared->Prop} {value x:Expr} {pos:Pos} (hx:AD x=true)
  (h:wpAny (model W.prog W.w) A (eval value env) (fun o s₁=>wpAny (model W.prog W.w) A (eval x env) (fun i s₂=>ItemOn (model W.prog W.w) A E o i Q s₂) E s₁) E s) :
  wpAny (model W.prog W.w) A (eval (.Subscript value x pos) env) Q E s:=by
 rw [eval_Subscript]
 refine wpAny_bind (wpAny_mono h (fun o s₁ hM=>wpAny_bind (wpAny_holding (wpAny_mono hM (fun i s₂ hU=>wpAny_bind (wpAny_standAt ?_)) fun _ _ x=>x))) fun _ _ x=>x)
 obtain ⟨T,id,hq⟩:=hU; have hl:=hq.1; have hT:=hq.2.1; have hg:=hq.2.2
 refine wpAny_bind ?_
 rw [getitemInPython_of_ne hT.not_modules]
 refine wpAny_bind (wpAny_specialOf hT hl ?_)
 have fin:wpAny (model W.prog W.w) A (operate [o,i] (getItem o i)) (fun r s₃=>wpAny (model W.prog W.w) A (letTemporaryGo value o r>>=fun _=>pure r) Q E s₃) E s₂:=
  wpAny_operating (wpAny_mono hg (fun r s₃ hV=>wpAny_bind (wpAny_letTemporaryGo (wpAny_pure hV))) fun _ _ x=>x)
 cases x with
 | Name _ _=>first|exact wpAny_pure (wpAny_bind fin)|exact wpAny_bind (wpAny_pure (wpAny_bind fin))|exact wpAny_bind fin
 | Constant _ _ _=>first|exact wpAny_pure (wpAny_bind fin)|exact wpAny_bind (wpAny_pure (wpAny_bind fin))|exact wpAny_bind fin
 | UnaryOp _ _ _=>first|exact wpAny_pure (wpAny_bind fin)|exact wpAny_bind (wpAny_pure (wpAny_bind fin))|exact wpAny_bind fin
 | BinOp _ _ _ _=>first|exact wpAny_pure (wpAny_bind fin)|exact wpAny_bind (wpAny_pure (wpAny_bind fin))|exact wpAny_bind fin
 | _=>exact absurd hx Bool.false_ne_true
theorem a5 {e:Expr} {x:Expr} {pos:Pos} {d i r:Dat} (h:Ev W C n ρ e d) (hi:Ev W C n ρ x i) (o:SubOp W n d i r) (hx:autoParam (AD x=true) Mine.dG._auto_1):Ev W C n ρ (.Subscript e x pos) r:=fun A s g E R S=>by
 refine sI hx (go3 (h A s g E R S) (fun v s₁ g₁ x₁ hM=>go3 (hi A s₁ g₁ E R (S.step x₁)) (fun u s₂ g₂ x₂ hU=>?_)))
 obtain ⟨T,id,hq⟩:=o.ok A s₂ g₂ E v u R ((S.step x₁).step x₂).base (hM.mono x₂.sub) hU; have q1:=hq.1; have q2:=hq.2.1; have q3:=hq.2.2
 exact ⟨T,id,q1,q2,wpAny_mono q3 (fun v s₃ ⟨g₃,x₃,hV⟩=>⟨g₃,(x₁.trans x₂).trans x₃,hV⟩) fun _ _ e=>e⟩
theorem w7 {x:Str} (hz:x.length<=16777216):H0 W n (fun vs=>call (.builtin "len") vs) [.str x] (.int x.length):=AG fun A s g E t B=>P.len_str (by lia) (bD B (.int _ _))
theorem lN {ds:List Dat} (hz:ds.length<=16777216):H0 W n (fun vs=>call (.builtin "len") vs) [.list ds] (.int ds.length):=fun A s g E vs R B hv=>by
 refine qK (fun v h1=>?_) hv
 refine cR (fun a vs k m r=>?_) h1
 ··have hsz:vs.toArray.size=ds.length:=by rw [List.size_toArray,r.length]
   refine call_len_list (cK B m) (by rw [hsz]; lia) ?_
   rw [hsz]
   exact bD B (.int _ _)
theorem pK {ds es:List Dat} (hz:ds.length+es.length<=16777216):lJ W n (binaryOp .Add) (.list ds) (.list es) (.list (ds++es)):=fun A s g E v u R B h1 h2=>by
 refine cR (fun a vs i m1 r1=>?_) h1
 refine cR (fun b us j m2 r2=>?_) h2
 ··have z1:vs.toArray.size=ds.length:=by rw [List.size_toArray,r1.length]
   have z2:us.toArray.size=es.length:=by rw [List.size_toArray,r2.length]
   refine P.add_list (B.gok _ m1).1 (B.gok _ m2).1 ?_ (by simp only [z1,z2,sizeLine_eq]; exact hz)
   rw [List.append_toArray]
   exact ⟨_,Ext.push B rfl,.list List.mem_cons_self ((r1.append r2).mono fun p hp=>List.mem_cons_of_mem _ hp)⟩
noncomputable def JD (W:Wd) (C:Cx) (n:Nat) (ρ:aW) (e:Option Expr) (r:Option Int):Prop:=
 ∀(A:Around) (s:Shared) (g:Gh) (E:Value->Shared->Prop),Room n A->St W C ρ s g ->
  wpAny (model W.prog W.w) A (evalPart e C.env) (fun v s'=>∃g',Ext W s g s' g'/\∃p:Option (Int×Tok),v=partValue p/\p.map (·.1)=r) E s
theorem cT:JD W C n ρ none none:=fun A s g E R S=>wpAny_pure ⟨_,Ext.refl S.gok,none,rfl,rfl⟩
theorem bZ {e:Expr} {i:Int} (h:Ev W C n ρ e (.int i)):JD W C n ρ (some e) (some i):=fun A s g E R S =>
 go3 (h A s g E R S) (fun v s₁ g₁ x₁ hM=>by cases hM; exact ⟨g₁,x₁,some (_,_),rfl,rfl⟩)
theorem zY (p:Option (Int×Tok)):IsPart (partValue p) (p.map (·.1)):=by
 cases p with
 | none=>exact .none
 | some q=>exact .int _ _
theorem jS {A:Around} {E:Value->Shared->Prop} {s:Shared} {env:Env} {Q:Value->Shared->Prop} {value:Expr} {lower upper st:Option Expr} {p pos:Pos} {T id:String} (hl:typeLookup (.type T) "__getitem__" = pure (some (.builtin id)))
  (h:wpAny (model W.prog W.w) A (eval value env) (fun o s₁=>wpAny (model W.prog W.w) A (eval (.Slice lower upper st p) env) (fun i s₂=>s₂.TypeIs o T/\wpAny (model W.prog W.w) A (getItem o i) Q E s₂) E s₁) E s) :
  wpAny (model W.prog W.w) A (eval (.Subscript value (.Slice lower upper st p) pos) env) Q E s:=by
 rw [eval_Subscript]
 refine wpAny_bind (wpAny_mono h (fun o s₁ hM=>wpAny_bind (wpAny_holding (wpAny_mono hM (fun i s₂ hU=>wpAny_bind (wpAny_standAt ?_)) fun _ _ x=>x))) fun _ _ x=>x)
 have fin:wpAny (model W.prog W.w) A (operate [i,o] (getItem o i)) (fun r s₃=>wpAny (model W.prog W.w) A (letTemporaryGo value o r>>=fun _=>pure r) Q E s₃) E s₂:=
  wpAny_operating (wpAny_mono hU.2 (fun r s₃ hV=>wpAny_bind (wpAny_letTemporaryGo (wpAny_pure hV))) fun _ _ x=>x)
 have fin2:wpAny (model W.prog W.w) A (operate [o,i] (getItem o i)) (fun r s₃=>wpAny (model W.prog W.w) A (letTemporaryGo value o r>>=fun _=>pure r) Q E s₃) E s₂:=
  wpAny_operating (wpAny_mono hU.2 (fun r s₃ hV=>wpAny_bind (wpAny_letTemporaryGo (wpAny_pure hV))) fun _ _ x=>x)
 refine wpAny_bind ?_
 rw [getitemInPython_of_ne hU.1.not_modules]
 refine wpAny_bind (wpAny_specialOf hU.1 hl ?_)
 cases st with
 | none=>first|exact wpAny_pure (wpAny_bind fin)|exact wpAny_bind (wpAny_pure (wpAny_bind fin))|exact wpAny_bind fin
 | some _=>first|exact wpAny_pure (wpAny_bind fin2)|exact wpAny_bind (wpAny_pure (wpAny_bind fin2))|exact wpAny_bind fin2
theorem i5 {e:Expr} {lo hi:Option Expr} {p pos:Pos} {x:Str} {a b:Option Int} (h:Ev W C n ρ e (.str x)) (h1:JD W C n ρ lo a) (h2:JD W C n ρ hi b) (hz:x.length<=sizeLine):Ev W C n ρ (.Subscript e (.Slice lo hi none p) pos) (.str (Txt.slice x a b)):=fun A s g E R S=>by
 revert h h1 h2 hz R S;revert W C n ρ e lo hi p pos x a b A s g E;refine no_implicit_lambda%(hK10 ?_);generalize (HK10 _).1=W,(HK10 _).2.1=C,(HK10 _).2.2.1=n,(HK10 _).2.2.2.1=ρ,(HK10 _).2.2.2.2.1=e,(HK10 _).2.2.2.2.2.1=lo,(HK10 _).2.2.2.2.2.2.1=hi,(HK10 _).2.2.2.2.2.2.2.1=p,(HK10 _).2.2.2.2.2.2.2.2.1=pos,(HK10 _).2.2.2.2.2.2.2.2.2=x;refine no_implicit_lambda%(hK6 ?_);generalize (HK6 _).1=a,(HK6 _).2.1=b,(HK6 _).2.2.1=A,(HK6 _).2.2.2.1=s,(HK6 _).2.2.2.2.1=g,(HK6 _).2.2.2.2.2=E;intro h h1 h2 hz R S
 refine jS F.slot_str_getitem.lookup (go3 (h A s g E R S) (fun v s₁ g₁ x₁ q₁=>wpAny_Slice (wpAny_mono (h1 A s₁ g₁ E R (S.step x₁)) (fun v₂ s₂ ⟨g₂,x₂,p₂,e₂,r₂⟩ =>
  wpAny_mono (h2 A s₂ g₂ E R ((S.step x₁).step x₂)) (fun v₃ s₃ ⟨g₃,x₃,p₃,e₃,r₃⟩=>wpAny_pure ?_) fun _ _ e=>e) fun _ _ e=>e)))
 revert v s₁ g₁ v₂ s₂ g₂ p₂ v₃ s₃ g₃ p₃;refine no_implicit_lambda%(hK3 ?_);generalize (HK3 _).1=v,(HK3 _).2.1=s₁,(HK3 _).2.2=g₁;intro x₁ q₁;refine no_implicit_lambda%(hK2 ?_);generalize (HK2 _).1=v₂,(HK2 _).2=s₂;intro _;refine no_implicit_lambda%(hK ?_);generalize HK _=g₂;intro x₂;refine no_implicit_lambda%(hK ?_);generalize HK _=p₂;intro e₂ r₂;refine no_implicit_lambda%(hK2 ?_);generalize (HK2 _).1=v₃,(HK2 _).2=s₃;intro _;refine no_implicit_lambda%(hK ?_);generalize HK _=g₃;intro x₃;refine no_implicit_lambda%(hK ?_);generalize HK _=p₃;intro e₃ r₃
 cases q₁
 have x4:Ext W s g { s₃ with heap:=s₃.heap.push { cls:=.type "slice",data:=.fields #[v₂,v₃,.none] } } g₃:=((x₁.trans x₂).trans x₃).trans (Ext.of_keeps (tk:=s₃.toks) (((S.step x₁).step x₂).step x₃).gok fun b o e=>Heap.get?_push_of_some _ e)
 have key:=fun (t':Tok) (k:Tok)=>(⟨g₃,x4.trans (Ext.toks (tk:=k) (S.step x4).gok),.str (Txt.slice x a b) t'⟩:∃g',Ext W s g { s₃ with heap:=s₃.heap.push { cls:=.type "slice",data:=.fields #[v₂,v₃,.none] },toks:=k } g'/\DatIn g' (.str (Txt.slice x a b) t') (.str (Txt.slice x a b)))
 subst r₂; subst r₃; subst e₂; subst e₃
 exact ⟨typeIs_str _ _ _,wpAny_getItem_str_slice (l:=p₂) (u:=p₃) (st:=none) ⟨_,Heap.get?_push_size _ rfl,rfl,rfl⟩ rfl (post_val_or_str ⟨Nat.le_trans (Txt.slice_le x _ _) hz,key⟩)⟩
theorem xQ {g:Gh} {vs:List Value} {ds:List Dat} (k:Nat) (r:DatAll g vs ds):DatAll g (vs.drop k) (ds.drop k):=
 iM (M:=fun vs ds=>∀k,DatAll g (vs.drop k) (ds.drop k)) (fun k=>by rw [List.drop_nil,List.drop_nil]; exact .nil) (fun v vs d ds h r ih k=>by cases k with
  | zero=>exact .cons h r
  | succ k=>exact ih k) r k
theorem zU {g:Gh} {vs:List Value} {ds:List Dat} (r:DatAll g vs ds):DatAll g vs.reverse ds.reverse:=
 iM (M:=fun vs ds=>DatAll g vs.reverse ds.reverse) .nil (fun v vs d ds h _ ih=>by rw [List.reverse_cons,List.reverse_cons]; exact ih.append (.one h)) r
theorem sW {e:Expr} {lo hi st:Option Expr} {p pos:Pos} {ds es:List Dat} {a b c:Option Int} (h:Ev W C n ρ e (.list ds)) (h1:JD W C n ρ lo a) (h2:JD W C n ρ hi b) (h3:JD W C n ρ st c) (hc:c≠some 0) (hz:ds.length<=sizeLine)
  (hp:∀(g:Gh) (vs:List Value),DatAll g vs ds->∃us:List Value,slicePick vs.toArray a b c=us.toArray/\DatAll g us es):Ev W C n ρ (.Subscript e (.Slice lo hi st p) pos) (.list es):=fun A s g E R S=>by
 refine jS list_getitem_lookup (go3 (h A s g E R S) (fun v s₁ g₁ x₁ q₁=>wpAny_Slice (wpAny_mono (h1 A s₁ g₁ E R (S.step x₁)) (fun v₂ s₂ ⟨g₂,x₂,p₂,e₂,r₂⟩ =>
  wpAny_mono (h2 A s₂ g₂ E R ((S.step x₁).step x₂)) (fun v₃ s₃ ⟨g₃,x₃,p₃,e₃,r₃⟩=>wpAny_mono (h3 A s₃ g₃ E R (((S.step x₁).step x₂).step x₃)) (fun v₄ s₄ ⟨g₄,x₄,p₄,e₄,r₄⟩=>?_) fun _ _ e=>e) fun _ _ e=>e) fun _ _ e=>e)))
 have xx:=((x₁.trans x₂).trans x₃).trans x₄
 have S4:=S.step xx
 have x5:Ext W s₄ g₄ { s₄ with heap:=s₄.heap.push { cls:=.type "slice",data:=.fields #[v₂,v₃,v₄] } } g₄:=Ext.of_keeps (tk:=s₄.toks) S4.gok fun b o e=>Heap.get?_push_of_some _ e
 have S5:=S4.step x5
 refine cR (fun l vs i m r=>?_) q₁
 ·have m':(l,PySem.W.listOf vs.toArray i)∈g₄:=x₄.sub _ (x₃.sub _ (x₂.sub _ m))
  obtain ⟨us,hq⟩:=hp g₄ vs (r.mono fun p hp=>x₄.sub _ (x₃.sub _ (x₂.sub _ hp))); have eu:=hq.1; have hu:=hq.2
  have z:vs.toArray.size=ds.length:=by rw [List.size_toArray,r.length]
  refine ⟨(cK S5.base m').typeIs,wpAny_getItem_list_slice (lo:=a) (hi:=b) (st:=c) (cK S5.base m') ⟨_,Heap.get?_push_size _ rfl,rfl,rfl⟩ (by rw [e₂,←r₂]; exact zY _) (by rw [e₃,←r₃]; exact zY _) (by rw [e₄,←r₄]; exact zY _) hc ?_ (by rw [z]; exact hz)⟩
  rw [eu]
  exact ⟨_,(xx.trans x5).trans (Ext.push (o:={ cls:=.type "list",data:=.seq us.toArray }) S5.base rfl),.list List.mem_cons_self (hu.mono fun p hp=>List.mem_cons_of_mem _ hp)⟩
theorem HN {e:Expr} {lo:Expr} {p pos:Pos} {ds:List Dat} {k:Nat} (h:Ev W C n ρ e (.list ds)) (h1:Ev W C n ρ lo (.int (-(k:Int)))) (hk:1<=k) (hz:ds.length<=sizeLine):Ev W C n ρ (.Subscript e (.Slice (some lo) none none p) pos) (.list (ds.drop (ds.length-k))):=
 sW h (bZ h1) cT cT (by intro z; cases z) hz fun g vs r=>⟨vs.drop (vs.toArray.size-k),by rw [slicePick_last _ _ hk],by rw [List.size_toArray,r.length]; exact xQ _ r⟩
noncomputable def jZ (x y:Str) (i j:Int):Int:=match Builtin.Str.occurrences x y (fromIndex x.length i) (min (fromIndex x.length j) x.length) 1 with|k::_=>(k:Int) | [] => -1
theorem vX (x y:Str) (i j:Int) (t u v w:Tok):Gives (Builtin.«str.find» ⟨[.str x t,.str y u,.int i v,.int j w],[]⟩) (.int (jZ x y i j)):=by
 show Gives (match Builtin.Str.occurrences x y (fromIndex x.length i) (min (fromIndex x.length j) x.length) 1 with|k::_=>retInt k | []=>(do rule "str.find.not-found"; retInt (-1))) _
 unfold jZ
 cases Builtin.Str.occurrences x y (fromIndex x.length i) (min (fromIndex x.length j) x.length) 1 with
 | nil=>exact .rule (.of_eq rfl)
 | cons k _=>exact .of_eq rfl
end
section
variable {W:Wd} {C:Cx} {n:Nat} {ρ ρ':aW}
structure Def (W:Wd) (f:Addr) (fd:FuncData) (body:List Stmt):Prop where
 fn:IsFn W f fd
 code:∃c o vs t,fd.code=.ref c/\W.top.get? c=some o/\o.data=.fields vs/\vs[1]? = some (.str fd.qualname t)/\c∉W.tb
 body:fd.body=.stmts body
 clo:fd.closure=[]
 glob:fd.globals=mainGlobals
 blt:fd.builtins=builtinsNs
theorem tJ {k:Str->Option NameKind}:∀(bs:List (Str×Value)) (m:Str->Option Value) (x:Str),(∀p∈bs,p.1≠x)->bindL k bs m x=m x
 | [],_,_,_=>rfl
 | (y,v)::r,m,x,h=>by
  unfold bindL
  rw [tJ r _ x fun p hp=>h p (List.mem_cons_of_mem _ hp)]
  split
  ·exact if_neg (Ne.symm (h _ List.mem_cons_self))
  ·rfl
theorem vT {k:Str->Option NameKind} {x:Str} {v:Value} (hk:k x=some .local):∀(bs:List (Str×Value)) (m:Str->Option Value),(bs.map (·.1)).Nodup->(x,v)∈bs->bindL k bs m x=some v
 | (y,u)::r,m,hn,h=>by
  rw [List.map_cons,List.nodup_cons] at hn
  rcases List.mem_cons.mp h with e|h
  ·cases e
   unfold bindL
   rw [tJ r _ x fun p hp z=>hn.1 (List.mem_map.mpr ⟨p,hp,z⟩),if_pos hk]
   exact if_pos rfl
  ·unfold bindL; exact vT hk r _ hn.2 h
theorem tC {k:Str->Option NameKind}:∀(bs:List (Str×Value)) (m:Str->Option Value) (x:Str),(∀p∈bs,p.1≠x)->bindC k bs m x=m x
 | [],_,_,_=>rfl
 | (y,v)::r,m,x,h=>by
  unfold bindC
  rw [tC r _ x fun p hp=>h p (List.mem_cons_of_mem _ hp)]
  split
  ·rfl
  ·exact if_neg (Ne.symm (h _ List.mem_cons_self))
theorem x1 {k:Str->Option NameKind} {x:Str} {v:Value} (hk:k x=some .cell):∀(bs:List (Str×Value)) (m:Str->Option Value),(bs.map (·.1)).Nodup->(x,v)∈bs->bindC k bs m x=some v
 | (y,u)::r,m,hn,h=>by
  rw [List.map_cons,List.nodup_cons] at hn
  rcases List.mem_cons.mp h with e|h
  ·cases e
   unfold bindC
   rw [tC r _ x fun p hp z=>hn.1 (List.mem_map.mpr ⟨p,hp,z⟩),if_neg (by rw [hk]; decide)]
   exact if_pos rfl
  ·unfold bindC; exact x1 hk r _ hn.2 h
noncomputable def start (ps:List Str) (ds:List Dat) (rest:List Str):aW:=(ps.zip ds).map (fun p=>(p.1,some (Bd.val p.2)))++rest.map fun x=>(x,none)
noncomputable def EQ (scope:Scope) (ps rest:List Str):Bool:=
 scope.kind==.function && !scope.isCoroutine && !scope.isGenerator&&(ps++rest).all (fun x=>scope.names.lookup x==some .local||scope.names.lookup x==some .cell)&&decide ((ps++rest).Nodup)
theorem wG {g:Gh} {ps:List Str} {vs:List Value} {ds:List Dat} {x:Str} {d:Dat} (r:DatAll g vs ds):(x,d)∈ps.zip ds->∃v,(x,v)∈ps.zip vs/\DatIn g v d:=
 iM (M:=fun vs ds=>∀ps:List Str,(x,d)∈ps.zip ds->∃v,(x,v)∈ps.zip vs/\DatIn g v d) (fun ps h=>by rw [List.zip_nil_right] at h; exact nomatch h)
  (fun v vs e ds h1 _ ih ps h=>by
   cases ps with
   | nil=>exact nomatch h
   | cons p ps =>
    rw [List.zip_cons_cons] at h ⊢
    refine (List.mem_cons.mp h).elim (fun q=>?_) fun q=>(ih ps q).elim fun v z=>⟨v,List.mem_cons_of_mem _ z.1,z.2⟩
    rw [show x=p from congrArg Prod.fst q,show d=e from congrArg Prod.snd q]
    exact ⟨v,List.mem_cons_self,h1⟩) r ps
theorem u4 {α:Type}:∀ {ps:List Str} {vs:List α},vs.length=ps.length->(ps.zip vs).map (·.1)=ps
 | [],_,_=>rfl
 | p::ps,[],h=>by simp at h
 | p::ps,v::vs,h=>by
  simp only [List.zip_cons_cons,List.map_cons,u4 (by simpa using h)]
theorem yL {f:Addr} {fd:FuncData} {body:List Stmt} {ps rest:List Str} {ds:List Dat} {d:Dat} (D:Def W f fd body) (ok:EQ fd.scope ps rest=true)
  (hb:∀vs:List Value,vs.length=ps.length->bindArgs fd ⟨vs,[]⟩=pure (ps.zip vs)) (hl:ds.length=ps.length)
  (h:∀C:Cx,C.env.scope=fd.scope->C.far=[]->cD W C n (start ps ds rest) body fun fl _=>fl=.ret d\/fl=.next/\d=.none):Fn W (n+1) f ds d:=fun A s g vs R B hv=>by
 revert D ok hb hl h R B hv;revert W n f fd body ps rest ds d A s g vs;refine no_implicit_lambda%(hK10 ?_);generalize (HK10 _).1=W,(HK10 _).2.1=n,(HK10 _).2.2.1=f,(HK10 _).2.2.2.1=fd,(HK10 _).2.2.2.2.1=body,(HK10 _).2.2.2.2.2.1=ps,(HK10 _).2.2.2.2.2.2.1=rest,(HK10 _).2.2.2.2.2.2.2.1=ds,(HK10 _).2.2.2.2.2.2.2.2.1=d,(HK10 _).2.2.2.2.2.2.2.2.2=A;refine no_implicit_lambda%(hK3 ?_);generalize (HK3 _).1=s,(HK3 _).2.1=g,(HK3 _).2.2=vs;intro D ok hb hl h R B hv
 unfold EQ at ok
 simp only [Bool.and_eq_true,decide_eq_true_eq,Bool.not_eq_true'] at ok
 obtain ⟨⟨⟨⟨ok1,ok2⟩,ok3⟩,ok4⟩,ok5⟩:=ok
 have ok1:fd.scope.kind=.function:=eq_of_beq ok1
 have hkind:∀x∈ps++rest,fd.scope.names.lookup x=some .local\/fd.scope.names.lookup x=some .cell:=fun x hx=>by
  have:=List.all_eq_true.mp ok4 x hx
  simpa using this
 have hvl:vs.length=ps.length:=by rw [hv.length,hl]
 obtain ⟨o,hq⟩:=D.fn.at B; have ho:=hq.1; have hdat:=hq.2
 have hcode:s.heap.CodeRec fd.code fd.qualname:=by
  obtain ⟨c,o,us,t,e1,e2,e3,e4,e5⟩:=D.code
  exact ⟨c,o,us,t,e1,B.topk _ _ e2 e5,e3,e4⟩
 have hcells:∀x,fd.scope.names.lookup x=some .cell->((cellsFrom (s.heap.objs.size+1) fd.scope.names []).lookup x).isSome=true:=fun x e=>PySem.W.cellsFrom_some _ _ _ (.inl e)
 have hlim:s.heap.NoLimit:=by
  obtain ⟨mc,hmc,hx⟩:=B.wok.lim
  exact ⟨mc,hmc.at' fun o e=>B.topk _ _ e (B.wok.ns_tb (OldK.refl _) hmc),hx⟩
 refine codeAny_call_cells R.lt ho hdat hlim hcode D.body (hb vs hvl) D.clo (fun x hx=>?_) (fun s₁ x=>?_) ok2 ok3 ok1
 ·have hx':x.1∈ps:=(List.of_mem_zip hx).1
  rcases hkind x.1 (List.mem_append.mpr (.inl hx')) with e|e
  ·exact .inl e
  ·exact .inr ⟨e,hcells _ e⟩
 ·let C:Cx:={ env:=callEnvC fd s.heap.objs.size f,s0:=s,g0:=g,far:=[] }
  have hnew:∀a,s.heap.objs.size<=a->s.heap.get? a=none:=fun a ha=>by
   cases e:s.heap.get? a with
   | none=>rfl
   | some o=>exact absurd (Heap.lt_size e) (Nat.not_lt.mpr ha)
  have hlow:∀p∈g,p.1<s.heap.objs.size:=fun p hp=>Heap.lt_size (B.gok p hp).1
  obtain ⟨hM,tk,e1⟩:=x.toInCall.same
  have hx:Ext W s g s₁ g:=by
   have hk:=x.toInCall.keep
   subst e1
   exact Ext.of_keeps B.gok hk
  have hnd:(ps.zip vs).map (·.1)=ps:=u4 hvl
  have nd:=ok5
  rw [List.nodup_append] at nd
  have S:St W C (start ps ds rest) s₁ g:=by
   refine ⟨B.step hx,B,hx,ok1,D.glob,D.blt,hnew _ (Nat.le_refl _),⟨_,x.toInCall.ns⟩,fun p hp=>Nat.ne_of_lt (hlow p hp),fun p hp=>?_,fun y c h1 h2 h3=>?_,fun y z c h1 h2=>?_,?_,fun y b hy=>?_,fun y z a k j es fs h1=>?_,fun p hp=>by cases hp⟩
   ·have hp1:p.1∈ps++rest:=by
     rcases List.mem_append.mp hp with hp|hp
     ·obtain ⟨q,hq,rfl⟩:=List.mem_map.mp hp
      exact List.mem_append.mpr (.inl (List.of_mem_zip hq).1)
     ·obtain ⟨q,hq,rfl⟩:=List.mem_map.mp hp
      exact List.mem_append.mpr (.inr hq)
    rcases hkind _ hp1 with e|e
    ·exact .loc e
    ·obtain ⟨c,hc⟩:=Option.isSome_iff_exists.mp (hcells _ e)
     exact .own c e hc (hnew c (Nat.le_of_lt (x.above _ _ (mem_of_lookup hc))))
   ·exact ⟨⟨_,x.cell y c h2⟩,fun p hp=>Nat.ne_of_lt (Nat.lt_trans (hlow p hp) (x.above _ _ (mem_of_lookup h2)))⟩
   ·exact name_of_addr x.apart (mem_of_lookup h1) (mem_of_lookup h2)
   ·have:(start ps ds rest).map (·.1)=ps++rest:=by
     unfold start
     simp only [List.map_append,List.map_map,List.map_map]
     have e1:(ps.zip ds).map ((fun p:Str×Option Bd=>p.1)∘fun p=>(p.1,some (Bd.val p.2)))=ps:=u4 hl
     have e2:rest.map ((fun p:Str×Option Bd=>p.1)∘fun x=>(x,none))=rest:=by simp [Function.comp_def]
     rw [e1,e2]
    rw [this]; exact ok5
   ·rcases List.mem_append.mp hy with hy|hy
    ·obtain ⟨q,hq,e⟩:=List.mem_map.mp hy
     cases e
     obtain ⟨v,hm,hd⟩:=wG hv hq
     refine ⟨v,?_,hd⟩
     rcases hkind q.1 (List.mem_append.mpr (.inl (List.of_mem_zip hq).1)) with e|e
     ·exact .inl ⟨e,_,x.toInCall.ns,vT e _ _ (by rw [hnd]; exact nd.1) hm⟩
     ·obtain ⟨c,hc⟩:=Option.isSome_iff_exists.mp (hcells _ e)
      refine .inr ⟨.inl e,c,hc,?_⟩
      have:=x.cell q.1 c hc
      rw [x1 (k:=(callEnvC fd s.heap.objs.size f).kindOf) e _ _ (by rw [hnd]; exact nd.1) hm] at this
      exact this
    ·obtain ⟨q,hq,e⟩:=List.mem_map.mp hy
     cases e
   ·rcases List.mem_append.mp h1 with hy|hy
    ·obtain ⟨q,hq,e⟩:=List.mem_map.mp hy
     cases e
    ·obtain ⟨q,hq,e⟩:=List.mem_map.mp hy
     cases e
  refine wpAny_mono (h C rfl rfl _ s₁ g _ (R.deeper _) S) (fun fl s₂ hq=>?_) fun _ _ e=>e
  obtain ⟨fl',ρ',g',hp,S',hg,hf⟩:=hq
  rcases hp with rfl|⟨rfl,rfl⟩
  ·cases fl<;>first|exact hf.elim|exact ⟨_,g',rfl,S'.ext,hf⟩
  ·cases fl<;>first|exact hf.elim|exact ⟨_,g',rfl,S'.ext,.none⟩
end
section
variable {W:Wd} {C:Cx} {n:Nat} {ρ ρ':aW}
structure DefAt (W:Wd) (f:Addr) (st:Stmt) (ps:List Str):Prop where
 fd:∃fd,Def W f fd (dW st)/\fd.scope=aR st/\∀vs:List Value,vs.length=ps.length->bindArgs fd ⟨vs,[]⟩=pure (ps.zip vs)
theorem jY {f:Addr} {st:Stmt} {ps rest:List Str} {ds:List Dat} {d:Dat} (D:DefAt W f st ps) (ok:EQ (aR st) ps rest=true) (hl:ds.length=ps.length)
  (h:∀C:Cx,C.env.scope=aR st->C.far=[]->cD W C n (start ps ds rest) (dW st) fun fl _=>fl=.ret d\/fl=.next/\d=.none):Fn W (n+1) f ds d:=by
 obtain ⟨fd,hq⟩:=D.fd; have D:=hq.1; have e:=hq.2.1; have hb:=hq.2.2
 exact yL D (by rw [e]; exact ok) hb hl fun C e'=>h C (e'.trans e)
theorem aE {C:Cx} {sc:Scope} (h:C.env.scope=sc) {x:Str} {k:NameKind} (e:(sc.names.lookup x==some k)=true):C.env.kindOf x=some k:=by
 unfold Env.kindOf
 rw [h]
 simpa using e
noncomputable def l6 (W:Wd) (ds:List Dat) (a b c:Int):Prop:=∀(A:Around) (s:Shared) (g:Gh) (E:Value->Shared->Prop) (vs:List Value) (Q:Value->Shared->Prop),DatAll g vs ds ->
 (∀h' tk r t u v,(∀b o,s.heap.get? b=some o->h'.get? b=some o)->IsRange h' r a b c t u v->Q (.ref r) { s with heap:=h',toks:=tk })->wpAny (model W.prog W.w) A (call (.type "range") vs) Q E s
theorem fT {b:Int}:l6 W [.int b] 0 b 1:=fun A s g E vs Q hv h=>by
 refine qK (fun v h1=>?_) hv
 refine cA (fun t=>?_) h1
 ·exact call_range_1 (h _ _ _ _ _ _ (fun b o e=>Heap.get?_push_of_some _ e) (Heap.get?_push_size _ rfl))
theorem EJ {a b:Int}:l6 W [.int a,.int b] a b 1:=fun A s g E vs Q hv h=>by
 refine sB (fun v u h1 h2=>?_) hv
 refine cA (fun t=>?_) h1
 refine cA (fun t'=>?_) h2
 ·exact call_range_2 (h _ _ _ _ _ _ (fun b o e=>Heap.get?_push_of_some _ e) (Heap.get?_push_size _ rfl))
theorem LA {a b c:Int} (hc:c≠0) (hp:Builtin.divisionGoesByPylong (b-a) c=false):l6 W [.int a,.int b,.int c] a b c:=fun A s g E vs Q hv h=>by
 refine OF (fun v u z h1 h2 h3=>?_) hv
 refine cA (fun t=>?_) h1
 refine cA (fun t'=>?_) h2
 refine cA (fun t''=>?_) h3
 ·exact call_range_3 hc (h _ _ _ _ _ _ (fun b o e=>Heap.get?_push_of_some _ e) (Heap.get?_push_size _ rfl)) (.inl hp)
theorem bR {p pos:Pos} {args:List Expr} {ds:List Dat} {a b c:Int} {k:Nat} (hm:W.mg "range" = none) (hb:W.mb "range" = some (.type "range")) (hk:C.env.kindOf "range" = some .globalImplicit) (ha:w6 W C n ρ args ds) (h:l6 W ds a b c)
  (hs:Builtin.Range.small a b c=true) (hz:Builtin.Range.rangeSize a b c=(k:Int))
  (he:autoParam (∀env pos,∃t ts,backTo pos (starEach args env)=(false,t)::ts) Mine.OC._auto_1)
  (hp:autoParam (∀env pos,(backTo pos (starEach args env)).any (·.1)=false) Mine.eM._auto_1):J9 W C n ρ (.Call (.Name "range" p) args [] pos) (cG a c k):=fun A s g E R S=>by
 refine wpAny_Call_NameR (cY S hm hb hk (rfl) ?_)
 have hp':=hp C.env pos
 obtain ⟨t,ts,ht⟩:=he C.env pos
 have q:=ha A s g E pos R S
 rw [ht] at q hp' ⊢
 refine PySem.callWith_type hp' (evalArgs_plain (wpAny_mono q (fun vs s₁ ⟨g₁,x₁,hM⟩=>?_) fun _ _ e=>e))
 exact h A s₁ g₁ E vs _ hM fun h' tk r t u v hk hr=>zG R.handled S.base (x₁.trans (Ext.of_keeps (tk:=tk) (S.step x₁).gok hk)) hr hs hz
theorem cB {a b:Int} (h1:-1000<=a) (h2:a<=1000) (h3:-1000<=b) (h4:b<=1000):Builtin.Range.small a b 1=true:=small_one (by lia) (by lia) (by lia) (by lia)
theorem vM {a b:Int} (h:a<=b):Builtin.Range.rangeSize a b 1=((b-a).toNat:Int):=by
 unfold Builtin.Range.rangeSize
 rw [if_pos (by decide)]
 split
 ·rw [Int.ediv_one]; lia
 ·lia
theorem dS (k:Nat):cG 0 1 k=(List.range k).map fun (i:Nat)=>Dat.int i:=by
 unfold cG
 refine List.map_congr_left fun i _=>?_
 simp
structure Glb (W:Wd):Prop where
 range:W.mg "range" = none/\W.mb "range" = some (.type "range")
 len:W.mg "len" = none/\W.mb "len" = some (.builtin "len")
 sorted:W.mg "sorted" = none/\W.mb "sorted" = some (.builtin "sorted")
 set:W.mg "set" = none/\W.mb "set" = some (.type "set")
 list:W.mg "list" = none/\W.mb "list" = some (.type "list")
 tuple:W.mg "tuple" = none/\W.mb "tuple" = some (.type "tuple")
 str:W.mg "str" = none/\W.mb "str" = some (.type "str")
theorem mN {a b:Int} (hb:b.natAbs.log2/30+1<=300):Builtin.divisionGoesByPylong a b=false:=by
 unfold Builtin.divisionGoesByPylong
 simp only [Bool.and_eq_false_iff,decide_eq_false_iff_not]
 left
 split<;>lia
theorem a7 {α β:Type} (p:α->Bool) (f:α->β):∀l:List α,(l.filterMap fun k=>if p k=true then some (f k) else none)=(l.filter p).map f
 | []=>rfl
 | a::l=>by
  refine (List.filterMap_cons).trans ?_; rw [List.filter_cons,a7 p f l]
  cases p a<;>rfl
noncomputable def aK (number:Int):List Nat:=(List.range 5).filter fun k=>(number.fdiv (2^k)).fmod 2==1
theorem gZ {f:Addr} {number:Int} (D:DefAt W f (aT 17) ["number"]) (G:Glb W):Fn W (n+2) f [.int number] (.list ((aK number).map fun (k:Nat)=>.int k)):=by
 refine jY (rest:=[]) D (by kernel_rfl) rfl fun C hC hf=>?_
 have kr:C.env.kindOf "range" = some .globalImplicit:=aE hC (by kernel_rfl)
 refine cN ?_ (.inl rfl)
 refine dA (dO (xs:=List.range 5) (emb:=fun (i:Nat)=>Dat.int i) (far:=[("number",.int number)]) (ρ₀:=[("k",none)]) (fun k=>if (number.fdiv (2^k)).fmod 2==1 then some (.int k) else none) ?_ ?_ ?_ ?_ ?_) ?_
 ·kernel_rfl
 ·rw [←dS]
  exact bR G.range.1 G.range.2 kr (aA aH aD) fT (cB (by decide) (by decide) (by decide) (by decide)) (rfl)
 ·intro p hp
  rw [List.mem_singleton.mp hp]
  exact .own .head (aE hC (by kernel_rfl))
 ·rw [sizeLine_eq]; decide
 ·intro C' B k hk
  have hk5:k<5:=List.mem_range.mp hk
  have hp0:(2:Int)^k≠0:=Int.pow_ne_zero (by decide)
  refine eH (aV .head) (aN (aJ (aJ (bK (by rw [B.far]; exact .head)) (aJ aH (aC .head) (t9 ?_ ?_)) (vK hp0 (mN ?_))) aH (lU (by decide))) aH (gV rfl)) fun _=>aC .head
  ·lia
  ·have:Builtin.Int.intBits 2=2:=rfl
   rw [this]; lia
  ·refine F8 (show k<5 by lia) ?_ ?_ ?_ ?_ ?_<;>decide
 ·rw [a7]; rfl
end
section
variable {W:Wd} {C:Cx} {n:Nat} {ρ ρ' ρ'':aW} {P:Fl->aW->Prop}
noncomputable def y2 (W:Wd) (C:Cx) (n:Nat) (ρ ρ':aW) (e:Expr) (d:Dat):Prop:=
 ∀(A:Around) (s:Shared) (g:Gh) (E:Value->Shared->Prop),Room n A->St W C ρ s g ->
  wpAny (model W.prog W.w) A (eval e C.env) (fun v s'=>∃g',St W C ρ' s' g'/\(∀p∈g,p∈g')/\DatIn g' v d) E s
theorem GX {e:Expr} {d:Dat} (h:Ev W C n ρ e d):y2 W C n ρ ρ e d:=fun A s g E R S =>
 go3 (h A s g E R S) (fun v s₁ g₁ x₁ hM=>⟨g₁,S.step x₁,x₁.sub,hM⟩)
theorem DC {l r:Expr} {op:Operator} {pos:Pos} {d₁ d₂ d:Dat} (hl:y2 W C n ρ ρ' l d₁) (hr:y2 W C n ρ' ρ'' r d₂) (h:lJ W n (binaryOp op) d₁ d₂ d):y2 W C n ρ ρ'' (.BinOp l op r pos) d:=fun A s g E R S =>
 wpAny_BinOp (wpAny_mono (hl A s g E R S) (fun a s₁ ⟨g₁,S1,y₁,hM⟩=>wpAny_mono (hr A s₁ g₁ E R S1) (fun b s₂ ⟨g₂,S2,y₂,hU⟩ =>
  go3 (h A s₂ g₂ E a b R S2.base (hM.mono y₂) hU) (fun v s₃ g₃ x₃ hV=>⟨g₃,S2.step x₃,fun p hp=>x₃.sub p (y₂ p (y₁ p hp)),hV⟩)) fun _ _ e=>e) fun _ _ e=>e)
theorem zV {x:Str} {p pos:Pos} {e:Expr} {d:Dat} (h:y2 W C n ρ ρ' e d) (hp:Put x (some (.val d)) ρ' ρ'') (hs:autoParam (∀env,swapsWith e (some (.Name x p)) pos.line env=pure false) Mine.aA._auto_1) :
  Ex W C n ρ (.Assign [.Name x p] e pos) (iS ρ''):=fun A s g E R S =>
 wpAny_Assign_Name (wpAny_mono (h A s g E R S) (fun v s₁ ⟨g₁,S1,y₁,hM⟩=>S1.store hp hM fun s' S' _=>⟨.next,ρ'',g₁,⟨rfl,rfl⟩,S',y₁,trivial⟩) fun _ _ e=>e) (hs _)
theorem lF {e:Expr} {pos:Pos} {d:Dat} (h:y2 W C n ρ ρ' e d) (hs:autoParam (∀env,swapsWith e none pos.line env=pure false) Mine.aA._auto_1):Ex W C n ρ (.Expr e pos) (iS ρ'):=fun A s g E R S =>
 wpAny_Expr_any (wpAny_mono (h A s g E R S) (fun v s₁ ⟨g₁,S1,y₁,hM⟩=>⟨.next,ρ',g₁,⟨rfl,rfl⟩,S1,y₁,trivial⟩) fun _ _ e=>e) (by unfold interactive; rw [S.kind]; rfl) (hs _)
theorem l0 {s:Shared} {g:Gh} (S:St W C ρ s g) {x:Str} {a:Addr} {ds:List Dat} (h:Has ρ x (.own a ds)):∃vs k,s.heap.get? a=some (listOf vs.toArray k)/\DatAll g vs ds/\vs.toArray.size=ds.length:=by
 obtain ⟨_,⟨vs,k,e,hd⟩,_⟩:=S.vars _ _ h.mem
 exact ⟨vs,k,e,hd,by rw [List.size_toArray,hd.length]⟩
theorem kQ {h:Heap} {a:Addr} {vs:Array Value} {k:Nat} (e:h.get? a=some (listOf vs k)) (f:Array Value->Array Value):∃k',(h.update a (Obj.mapSeq f)).get? a=some (listOf (f vs) k')/\Heap.ExtBut a h (h.update a (Obj.mapSeq f)):=
 ⟨_,PySem.IsL.update (n:=k) e f,(Heap.SameBut.update ..).extBut⟩
theorem gC {x:Str} {p apos pos:Pos} {e:Expr} {a:Addr} {ds:List Dat} {d:Dat} (hx:Has ρ x (.own a ds)) (h:Ev W C n ρ e d) (hp:Put x (some (.own a (ds++[d]))) ρ ρ') (hz:ds.length<=1000) (hd:autoParam ((x==("__debug__":Str))=false) Mine.aC._auto_1)
  (hs:autoParam (∀env,starEach [e] env=[(false,eval e env)]) Mine.aA._auto_1) (hline:autoParam ((apos.endLine==pos.line)=true) Mine.dG._auto_1) :
  y2 W C n ρ ρ' (.Call (.Attribute (.Name x p) "append" apos) [e] [] pos) .none:=fun A s g E R S=>by
 have hq:=S.vars _ _ hx.mem; have hv:=hq.1
 obtain ⟨vs0,k₀,hq⟩:=l0 S hx; have e₀:=hq.1
 refine wpAny_Call_method_lateS rfl (by rw [hs]; rfl) hline (wpAny_Name (bH S.kind hv ?_) hd)
 rw [hs]
 refine ⟨"list","list.append",F.plainAttrs_list,F.slot_list_append,F.type_list_append,⟨_,e₀,rfl⟩,fun b hb=>⟨_,by cases hb; exact e₀,rfl⟩,P.append_list (go3 (h A s g E R S) (fun v s₁ g₁ x₁ hM=>?_))⟩
 have S1:=S.step x₁
 obtain ⟨vs,k,hq⟩:=l0 S1 hx; have e₁:=hq.1; have hD:=hq.2.1; have z:=hq.2.2
 refine ⟨vs.toArray,k,by rw [z,sizeLine_eq]; lia,e₁,g₁,?_,x₁.sub,.none⟩
 obtain ⟨k',e₂,hb⟩:=kQ e₁ fun xs=>xs.push v
 refine S1.turn (vs:=vs++[v]) (k:=k') (tk:=s₁.toks) hx.mem hp ?_ (hD.append (.one hM)) hb
 show _=some (PySem.W.listOf _ _)
 refine (e₂).trans ?_; simp
theorem oC {g:Gh} {vs:List Value} {ds:List Dat} {d:Dat} (h:DatAll g vs (ds++[d])):∃us v,vs=us++[v]/\DatAll g us ds/\DatIn g v d:=by
 induction ds generalizing vs with
 | nil =>
  cases h with
  | cons h1 r=>cases r; exact ⟨[],_,rfl,.nil,h1⟩
 | cons e ds ih =>
  cases h with
  | cons h1 r =>
   obtain ⟨us,v,rfl,q1,q2⟩:=ih r
   exact ⟨_::us,v,rfl,.cons h1 q1,q2⟩
theorem i9 (vs:List Value) (k:Nat) (h:k<vs.length):vs.toArray.eraseIdxIfInBounds k=(vs.eraseIdx k).toArray:=by
 simp [Array.eraseIdxIfInBounds,h]
theorem IJ {x:Str} {p apos pos:Pos} {a:Addr} {ds:List Dat} {d:Dat} (hx:Has ρ x (.own a (ds++[d]))) (hp:Put x (some (.own a ds)) ρ ρ') (hz:ds.length<=1000) (hd:autoParam ((x==("__debug__":Str))=false) Mine.aC._auto_1)
  (hline:autoParam ((apos.endLine==pos.line)=true) Mine.dG._auto_1):y2 W C n ρ ρ' (.Call (.Attribute (.Name x p) "pop" apos) [] [] pos) d:=fun A s g E R S=>by
 have hq:=S.vars _ _ hx.mem; have hv:=hq.1
 obtain ⟨vs,k,hq⟩:=l0 S hx; have e₁:=hq.1; have hD:=hq.2.1; have z:=hq.2.2
 obtain ⟨us,v,hq⟩:=oC hD; have q1:=hq.2.1; have q2:=hq.2.2; obtain rfl:=hq.1
 refine Call_method0 rfl hline (wpAny_Name (bH S.kind hv ?_) hd)
 refine ⟨"list","list.pop",F.plainAttrs_list,F.slot_list_pop,F.type_list_pop,⟨_,e₁,rfl⟩,fun b hb=>⟨_,by cases hb; exact e₁,rfl⟩,P.pop_list (y:=v) e₁ (by simp) ?_ (by rw [z,sizeLine_eq]; simp; lia)⟩
 obtain ⟨k',e₂,hb⟩:=kQ e₁ fun xs=>xs.eraseIdxIfInBounds ((us++[v]).toArray.size-1)
 refine ⟨g,S.turn (vs:=us) (k:=k') (tk:=s.toks) hx.mem hp ?_ q1 hb,fun _ h=>h,q2⟩
 show _=some (PySem.W.listOf _ _)
 refine (e₂).trans ?_; rw [i9 _ _ (by simp)]
 have:(us++[v]).eraseIdx ((us++[v]).toArray.size-1)=us:=by
  simp only [List.size_toArray,List.length_append,List.length_cons,List.length_nil,Nat.zero_add,Nat.add_sub_cancel]
  rw [List.eraseIdx_append_of_length_le (Nat.le_refl _)]
  simp
 rw [this]
theorem mK {g:Gh} {vs:List Value} {ds:List Dat} (k:Nat) (r:DatAll g vs ds):DatAll g (vs.eraseIdx k) (ds.eraseIdx k):=
 iM (M:=fun vs ds=>∀k,DatAll g (vs.eraseIdx k) (ds.eraseIdx k)) (fun _=>.nil) (fun v vs d ds h r ih k=>by cases k with
  | zero=>exact r
  | succ k=>exact .cons h (ih k)) r k
theorem BZ {x:Str} {p apos pos:Pos} {e:Expr} {a:Addr} {ds:List Dat} {d:Dat} {i:Int} (hx:Has ρ x (.own a ds)) (h:Ev W C n ρ e (.int i)) (h0:0<=i) (hfit:i<1000) (hk:ds[i.toNat]? = some d) (hp:Put x (some (.own a (ds.eraseIdx i.toNat))) ρ ρ') (hz:ds.length<=1000)
  (hd:autoParam ((x==("__debug__":Str))=false) Mine.aC._auto_1) (hs:autoParam (∀env,starEach [e] env=[(false,eval e env)]) Mine.aA._auto_1) (hline:autoParam ((apos.endLine==pos.line)=true) Mine.dG._auto_1) :
  y2 W C n ρ ρ' (.Call (.Attribute (.Name x p) "pop" apos) [e] [] pos) d:=fun A s g E R S=>by
 have hq:=S.vars _ _ hx.mem; have hv:=hq.1
 obtain ⟨vs0,k₀,hq⟩:=l0 S hx; have e₀:=hq.1
 refine wpAny_Call_method_lateS rfl (by rw [hs]; rfl) hline (wpAny_Name (bH S.kind hv ?_) hd)
 rw [hs]
 refine ⟨"list","list.pop",F.plainAttrs_list,F.slot_list_pop,F.type_list_pop,⟨_,e₀,rfl⟩,fun b hb=>⟨_,by cases hb; exact e₀,rfl⟩,P.pop_at_list (go3 (h A s g E R S) (fun v s₁ g₁ x₁ hM=>?_))⟩
 have S1:=S.step x₁
 obtain ⟨vs,k,hq⟩:=l0 S1 hx; have e₁:=hq.1; have hD:=hq.2.1; have z:=hq.2.2
 refine cA (fun t=>?_) hM
 ·skip
  obtain ⟨hlt,hget⟩:=List.getElem?_eq_some_iff.mp hk
  obtain ⟨y,ey,hDy⟩:=DatAll.at hD hk
  refine ⟨vs.toArray,k,i,t,i.toNat,y,by rw [z,sizeLine_eq]; lia,rfl,e₁,fitsIndex_of h0 (by lia),?_,ey,g₁,?_,x₁.sub,hDy⟩
  ·exact seqIndex_of h0 (by rw [z]; lia)
  ·obtain ⟨k',e₂,hb⟩:=kQ e₁ fun xs=>xs.eraseIdxIfInBounds i.toNat
   refine S1.turn (vs:=vs.eraseIdx i.toNat) (k:=k') (tk:=s₁.toks) hx.mem hp ?_ (mK _ hD) hb
   show _=some (PySem.W.listOf _ _)
   refine (e₂).trans ?_; rw [i9 _ _ (by rw [hD.length]; exact hlt)]
noncomputable def O4 (W:Wd) (C:Cx) (n:Nat) (ρ:aW) (e:Expr) (ds:List Dat):Prop:=
 ∀(A:Around) (s:Shared) (g:Gh) (E:Value->Shared->Prop),Room n A->St W C ρ s g ->
  wpAny (model W.prog W.w) A (eval e C.env) (fun v s'=>∃g' a vs k,v=.ref a/\Ext W s g s' g'/\s.heap.get? a=none/\s'.heap.get? a=some (listOf vs.toArray k)/\DatAll g' vs ds/\∀p∈g',p.1≠a) E s
theorem dZ {es:List Expr} {ds:List Dat} {pos:Pos} (h:w6 W C n ρ es ds) (hz:autoParam (ds.length<=sizeLine) Mine.bF._auto_1):O4 W C n ρ (.List es pos) ds:=fun A s g E R S =>
 List_ (go3 (h A s g E pos R S) (fun vs s₁ g₁ x₁ hM=>by
  refine wpAny_newObj_type ⟨g₁,_,vs,0,rfl,x₁.trans (Ext.of_keeps (tk:=s₁.toks) (S.step x₁).gok fun b o e=>Heap.get?_push_of_some _ e),eZ S.base x₁ (get?_size _),Heap.get?_push_size _ rfl,hM,fun p hp=>mJ ((S.step x₁).gok p hp).1⟩ (by show vs.toArray.size<=sizeLine; rw [List.size_toArray,hM.length]; exact hz)))
theorem iG {x:Str} {p pos:Pos} {e:Expr} {ds:List Dat} (h:O4 W C n ρ e ds) (hs:autoParam (∀env,swapsWith e (some (.Name x p)) pos.line env=pure false) Mine.aA._auto_1)
  {rest:List Stmt} (hp:∀a,∃ρ',Put x (some (.own a ds)) ρ ρ'/\cD W C n ρ' rest P) :
  cD W C n ρ (.Assign [.Name x p] e pos::rest) P:=fun A s g E R S=>by
 revert h hs hp R S;revert W C n ρ P x p pos e ds rest A s g E;refine no_implicit_lambda%(hK10 ?_);generalize (HK10 _).1=W,(HK10 _).2.1=C,(HK10 _).2.2.1=n,(HK10 _).2.2.2.1=ρ,(HK10 _).2.2.2.2.1=P,(HK10 _).2.2.2.2.2.1=x,(HK10 _).2.2.2.2.2.2.1=p,(HK10 _).2.2.2.2.2.2.2.1=pos,(HK10 _).2.2.2.2.2.2.2.2.1=e,(HK10 _).2.2.2.2.2.2.2.2.2=ds;refine no_implicit_lambda%(hK5 ?_);generalize (HK5 _).1=rest,(HK5 _).2.1=A,(HK5 _).2.2.1=s,(HK5 _).2.2.2.1=g,(HK5 _).2.2.2.2=E;intro h hs hp R S
 refine wpAny_execs_cons (wpAny_Assign_Name (wpAny_mono (h A s g E R S) (fun v s₁ hq=>?_) fun _ _ e=>e) (hs _))
 obtain ⟨g₁,a,vs,k,hv,x₁,hn,ha,hD,hg⟩:=hq
 subst hv
 obtain ⟨ρ',hq⟩:=hp a; have hp:=hq.1; have hr:=hq.2
 have S1:=S.step x₁
 refine S1.storeV (b:=.own a ds) hp (fun h' hh hk=>⟨hh,⟨vs,k,hk _ _ ha ⟨_,_,rfl⟩,hD⟩,hg,eZ S.base0 S.ext hn,fun _ _ _ z=>nomatch z⟩) (fun a' k' es he y j' fs hy hm=>?_) fun s' S' _=>?_
 ·cases he
  obtain ⟨_,⟨us,j,e',_⟩,_⟩:=S.vars _ _ hm
  rw [hn] at e'; exact none_ e'
 ·exact OL x₁.sub (hr A s' g₁ E R S')
theorem zL {g:Gh} {v:Value} {d:Dat} (h:DatIn g v d) {vs:List Value} {ds:List Dat} (k:Nat) (r:DatAll g vs ds):DatAll g (vs.set k v) (ds.set k d):=
 iM (M:=fun vs ds=>∀k,DatAll g (vs.set k v) (ds.set k d)) (fun _=>.nil) (fun w vs e ds h1 r ih k=>by cases k with
  | zero=>exact .cons h r
  | succ k=>exact .cons h1 (ih k)) r k
theorem jI {x:Str} {p pos' pos:Pos} {i e:Expr} {a:Addr} {ds:List Dat} {d:Dat} {k:Int} (hx:Has ρ x (.own a ds)) (h:Ev W C n ρ e d) (hi:Ev W C n ρ i (.int k)) (h0:0<=k) (h1:k<ds.length) (hz:ds.length<=1000) (hp:Put x (some (.own a (ds.set k.toNat d))) ρ ρ')
  (hd:autoParam ((x==("__debug__":Str))=false) Mine.aC._auto_1) (hs:autoParam (∀env,swapsWith e (some (.Subscript (.Name x p) i pos')) pos.line env=pure false) Mine.aA._auto_1) :
  Ex W C n ρ (.Assign [.Subscript (.Name x p) i pos'] e pos) (iS ρ'):=fun A s g E R S=>by
 refine wpAny_Assign_Subscript (go3 (h A s g E R S) (fun v s₁ g₁ x₁ hM=>?_)) (hs _)
 have S1:=S.step x₁
 have hq:=S1.vars _ _ hx.mem; have hv:=hq.1
 refine wpAny_Name (bH S1.kind hv ?_) hd
 refine wpAny_mono (hi A s₁ g₁ E R S1) (fun iv s₂ hq=>?_) fun _ _ e=>e
 obtain ⟨g₂,x₂,hU⟩:=hq
 have S2:=S1.step x₂
 obtain ⟨vs,j,hq⟩:=l0 S2 hx; have e₁:=hq.1; have hD:=hq.2.1; have z:=hq.2.2
 refine cA (fun t=>?_) hU
 ·skip
  refine PySem.W.ki_setAt e₁ h0 (by lia) (by rw [z]; exact h1) ?_
  obtain ⟨k',e₂,hb⟩:=kQ e₁ fun xs=>xs.setIfInBounds k.toNat v
  refine ⟨.next,ρ',g₂,⟨rfl,rfl⟩,S2.turn (vs:=vs.set k.toNat v) (k:=k') (tk:=s₂.toks) hx.mem hp ?_ (zL (hM.mono x₂.sub) _ hD) hb,fun p hp=>x₂.sub p (x₁.sub p hp),trivial⟩
  show _=some (PySem.W.listOf _ _)
  refine (e₂).trans ?_; simp
theorem F5 {x:Str} {p pos' pos:Pos} {i:Expr} {a:Addr} {ds:List Dat} {k:Int} {j:Nat} (hx:Has ρ x (.own a ds)) (hi:Ev W C n ρ i (.int k)) (hj:seqIndex? k ds.length=some j) (hlt:j<ds.length) (hfit:Builtin.List.listFitsIndex k=true) (hz:ds.length<=1000)
  (hp:Put x (some (.own a (ds.eraseIdx j))) ρ ρ') (hd:autoParam ((x==("__debug__":Str))=false) Mine.aC._auto_1) :
  Ex W C n ρ (.Delete [.Subscript (.Name x p) i pos'] pos) (iS ρ'):=fun A s g E R S=>by
 refine wpAny_Delete (wpAny_deleteEach_cons ?_)
 rw [arm_delete_Subscript]
 have hq:=S.vars _ _ hx.mem; have hv:=hq.1
 refine wpAny_bind (wpAny_Name (bH S.kind hv ?_) hd)
 refine wpAny_bind (wpAny_holding (wpAny_mono (hi A s g E R S) (fun iv s₂ hq=>?_) fun _ _ e=>e))
 obtain ⟨g₂,x₂,hU⟩:=hq
 have S2:=S.step x₂
 obtain ⟨vs,m,hq⟩:=l0 S2 hx; have e₁:=hq.1; have hD:=hq.2.1; have z:=hq.2.2
 refine cA (fun t=>?_) hU
 ·skip
  refine wpAny_bind (wpAny_standAt (wpAny_bind (wpAny_holding (P.delItem_list e₁ hfit (by rw [z]; exact hj) ?_ (by rw [z,sizeLine_eq]; lia)))))
  obtain ⟨k',hq⟩:=kQ e₁ fun xs=>xs.eraseIdxIfInBounds j; have e₂:=hq.1; have hb:=hq.2
  refine wpAny_release (wpAny_deleteEach_nil ⟨.next,ρ',g₂,⟨rfl,rfl⟩,S2.turn (vs:=vs.eraseIdx j) (k:=k') (tk:=s₂.toks) hx.mem hp ?_ (mK _ hD) hb,x₂.sub,trivial⟩)
  show _=some (PySem.W.listOf _ _)
  refine (e₂).trans ?_; rw [i9 _ _ (by rw [hD.length]; exact hlt)]
theorem CC {x y:Str} {p q tpos pos:Pos} {k:Nat} {e:Expr} {d₁ d₂:Dat} {ρ₁:aW} (h:Ev W C n ρ e (.tuple [d₁,d₂])) (h1:Put x (some (.val d₁)) ρ ρ₁) (h2:Put y (some (.val d₂)) ρ₁ ρ')
  (hs:autoParam (∀env,swapsWithSole [.Tuple [.Name x p,.Name y q] k tpos] e pos.line env=pure false) Mine.aA._auto_1) (hw:autoParam (∀env,swappedStores [.Tuple [.Name x p,.Name y q] k tpos] e env=pure none) Mine.aA._auto_1) :
  Ex W C n ρ (.Assign [.Tuple [.Name x p,.Name y q] k tpos] e pos) (iS ρ'):=fun A s g E R S =>
 Assign_Tuple (go3 (h A s g E R S) (fun v s₁ g₁ x₁ hd=>wpAny_mono (fG (n:=n) h1 h2 A s₁ g₁ E v R (S.step x₁) hd) (fun _ s₂ ⟨S2,_⟩=>⟨.next,ρ',g₁,⟨rfl,rfl⟩,S2,x₁.sub,trivial⟩) fun _ _ e=>e)) (hs _) (hw _)
theorem zT {x y:Str} {p q tpos pos:Pos} {k:Nat} {e:Expr} {d₁ d₂:Dat} {ρ₁:aW} (h:Ev W C n ρ e (.tuple [d₁,d₂])) (h1:Put y (some (.val d₂)) ρ ρ₁) (h2:Put x (some (.val d₁)) ρ₁ ρ')
  (hw:C.env.scope.kind=.function->swappedStores [.Tuple [.Name x p,.Name y q] k tpos] e C.env=pure (some [x,y])) (hs:autoParam (∀env,swapsWithSole [.Tuple [.Name x p,.Name y q] k tpos] e pos.line env=pure false) Mine.aA._auto_1) :
  Ex W C n ρ (.Assign [.Tuple [.Name x p,.Name y q] k tpos] e pos) (iS ρ'):=fun A s g E R S=>by
 refine Assign_Tuple_swapped (names:=[x,y]) (wpAny_mono (h A s g E R S) (fun v s₁ hq=>?_) fun _ _ e=>e) (hs _) (hw S.kind)
 obtain ⟨g₁,x₁,hd⟩:=hq
 have S1:=S.step x₁
 refine j4 (fun a vs k' hm hd=>?_) hd
 revert hm
 refine sB (fun v1 v2 hd1 hd2=>?_) hd
 intro hm
 ···skip
    have U:=unpackItems_tuple (prog:=W.prog) (w:=W.w) (A:=A) (E:=E) (s:=s₁) (t:=a) (items:=[v1,v2].toArray) (Q:=fun items s₂=>wpAny (model W.prog W.w) A (assignInOrder (([x,y]:List Str).reverse.map fun n=>bindName C.env n) items.reverse) (fun _=>wN W C g (iS ρ') .next) E s₂) R.handled (qD S1.base hm) fun h' hx=>by
     have y':Ext W s₁ g₁ { s₁ with heap:=h' } g₁:=Ext.of_keeps (tk:=s₁.toks) S1.base.gok fun b o e=>hx b o (Nat.ne_of_lt (Heap.lt_size e)) e
     refine assignInOrder_cons (bindName_ ((S1.step y').store h1 hd2 fun s₂ S2 _=>?_))
     exact assignInOrder_cons (bindName_ (S2.store h2 hd1 fun s₃ S3 _=>assignInOrder_nil ⟨.next,ρ',g₁,⟨rfl,rfl⟩,S3,x₁.sub,trivial⟩))
    exact U
end
section
variable {W:Wd} {C:Cx} {n:Nat} {ρ ρ':aW}
theorem KH {x y:Str} {i j:Int}:IsMeth W n (.str x) "find" [.str y,.int i,.int j] (.int (jZ x y i j)):=fQ F.slot_str_find F.type_str_find fun A s g E vs R B hv=>by
 refine QB (fun v1 v2 v3 v4 h1 h2 h3 h4=>?_) hv
 refine cE (fun t1=>?_) h1
 refine cE (fun t2=>?_) h2
 refine cA (fun t3=>?_) h3
 refine cA (fun t4=>?_) h4
 exact call_gives F.slot_str_find (typeIs_str _ _ _) F.entry_str_find (F.args_str_find_4 _ _ _ _) (vX x y i j _ _ _ _) (bD B (.int _ _))
theorem wH {g:Gh}:∀l:List (Str×Tok),DatAll g (strValues l) (l.map fun p=>Dat.str p.1)
 | []=>.nil
 | p::l=>.cons (.str _ _) (wH l)
theorem BX {o e:Expr} {apos pos:Pos} {x y:Str} (ho:Ev W C n ρ o (.str x)) (he:Ev W C n ρ e (.str y)) (hy:(y.length==0)=false) (hx:x.length<=sizeLine) (hn:(Builtin.Str.partsBetween x (Builtin.Str.occurrences x y 0 x.length (x.length+1)) y.length).length<=sizeLine)
  (hbase:autoParam (∀env,attributeBase o "split" env (eval o env)=eval o env) Mine.aA._auto_1) (hs:autoParam (∀env,starEach [e] env=[(false,eval e env)]) Mine.aA._auto_1) (hline:autoParam ((apos.endLine==pos.line)=true) Mine.dG._auto_1) :
  O4 W C n ρ (.Call (.Attribute o "split" apos) [e] [] pos) ((Txt.split x y).map .str):=fun A s g E R S=>by
 revert ho he hy hx hn hbase hs hline R S;revert W C n ρ o e apos pos x y A s g E;refine no_implicit_lambda%(hK10 ?_);generalize (HK10 _).1=W,(HK10 _).2.1=C,(HK10 _).2.2.1=n,(HK10 _).2.2.2.1=ρ,(HK10 _).2.2.2.2.1=o,(HK10 _).2.2.2.2.2.1=e,(HK10 _).2.2.2.2.2.2.1=apos,(HK10 _).2.2.2.2.2.2.2.1=pos,(HK10 _).2.2.2.2.2.2.2.2.1=x,(HK10 _).2.2.2.2.2.2.2.2.2=y;refine no_implicit_lambda%(hK4 ?_);generalize (HK4 _).1=A,(HK4 _).2.1=s,(HK4 _).2.2.1=g,(HK4 _).2.2.2=E;intro ho he hy hx hn hbase hs hline R S
 refine wpAny_Call_method_lateS (hbase _) (by rw [hs]; rfl) hline (go3 (ho A s g E R S) (fun v s₁ g₁ x₁ hM=>?_))
 rw [hs]
 refine cE (fun t=>?_) hM
 ·have S1:=S.step x₁
  refine ⟨"str",_,F.plainAttrs_str,F.slot_str_split,F.type_str_split,typeIs_str _ _ _,(fun _ e=>nomatch e),
   method1_meets F.slot_str_split F.entry_str_split (go3 (he A s₁ g₁ E R S1) (fun v s₂ g₂ x₂ hU=>?_))⟩
  refine cE (fun u=>?_) hU
  ·have S2:=S1.step x₂
   have key:∀(l:List (Str×Tok)) (tk:Tok),l.map (·.1)=Txt.split x y->∃g' a vs k,Value.ref s₂.heap.objs.size=.ref a/\Ext W s g { s₂ with heap:=s₂.heap.push { cls:=.type "list",data:=.seq (strValues l).toArray },toks:=tk } g'/\s.heap.get? a=none /\
     ({ s₂ with heap:=s₂.heap.push { cls:=.type "list",data:=.seq (strValues l).toArray },toks:=tk }:Shared).heap.get? a=some (PySem.W.listOf vs.toArray k)/\DatAll g' vs ((Txt.split x y).map .str)/\∀p∈g',p.1≠a:=fun l tk hl =>
    ⟨g₂,_,strValues l,0,rfl,(x₁.trans x₂).trans (Ext.of_keeps (tk:=tk) S2.gok fun b o e=>Heap.get?_push_of_some _ e),eZ S.base (x₁.trans x₂) (get?_size _),Heap.get?_push_size _ rfl,by rw [←hl,List.map_map]; exact wH l,fun p hp=>mJ (S2.gok p hp).1⟩
   refine ⟨typeIs_str _ _ _,F.args_str_split_2 _ _,?_⟩
   cases h1:(decide (x.length<y.length)||decide (Builtin.Str.strKind x<Builtin.Str.strKind y))
   ·cases hf:(Builtin.Str.occurrences x y 0 x.length (x.length+1)).isEmpty
    ·refine ⟨_,meets_str_split_sep x y t u h1 hy hf hx hn,?_⟩
     show wants _ E _ { s₂ with toks:=_,heap:=s₂.heap.push { cls:=.type "list",data:=.seq (strsFrom s₂.toks (Builtin.Str.partsBetween x (Builtin.Str.occurrences x y 0 x.length (x.length+1)) y.length)).toArray } }
     rw [strsFrom_eq]
     exact key (numbered s₂.toks _) _ ((numbered_texts _ _).trans ((if_neg (ne_true_of_eq_false h1)).trans (if_neg (ne_true_of_eq_false hf))).symm)
    ·exact ⟨_,meets_str_split_not_found x y t u h1 hy hf,key [(x,t)] _ ((if_neg (ne_true_of_eq_false h1)).trans (if_pos hf)).symm⟩
   ·exact ⟨_,meets_str_split_cannot_occur x y t u h1,key [(x,t)] _ (if_pos h1).symm⟩
noncomputable def fB (got:Str) (ep:Int):List Str->Int->Bool
 | [],_=>true
 | w::ws,sp=>if jZ got w sp ep<0 then false else fB got ep ws (jZ got w sp ep+w.length)
noncomputable def gN (got:Str) (ws:List Str):Option (Int×List Str):=
 match ws with
 | []=>none
 | w::r=>if ((w.length:Int)!=0)=true then (if Txt.startswith got w=true then some (w.length,r) else none) else some (0,w::r)
noncomputable def iC (got:Str) (ws:List Str):Option (Int×List Str):=
 match ws.getLast? with
 | none=>none
 | some w=>if ((w.length:Int)!=0)=true then (if Txt.endswith got w=true then some (got.length-w.length,ws.dropLast) else none) else some (got.length,ws)
noncomputable def em (want got:Str):Bool:=
 if Txt.contains want "..." = true then
  match gN got (Txt.split want "...") with
  | none=>false
  | some (sp,ws)=>match iC got ws with
   | none=>false
   | some (ep,ws')=>if sp>ep then false else fB got ep ws' sp
 else want==got
noncomputable def O7 (C:Cx) (l:Nat) (x:Expr):Option Str:=match x with
 | .Name id pos=>if (C.env.kindOf id==some .local&&pos.line==l)=true then some id else none
 | _=>none
theorem zN {k:Nat} {p q tpos vpos kp cp lp gp:Pos} {C:Cx} (hp:(p.line==q.line)=true) (h1:C.env.kindOf "startpos" = some .local) (h2:C.env.kindOf "endpos" = some .local) (hk:C.env.scope.kind=.function) (j j':Nat) :
  swappedStores [.Tuple [.Name "startpos" p,.Name "endpos" q] k tpos] (.Tuple [.Constant (.int 0) j kp,.Call (.Name "len" lp) [.Name "got" gp] [] cp] j' vpos) C.env=pure (some [("startpos":Str),("endpos":Str)]):=by
 have hb:C.env.blockKind=.function:=by unfold Env.blockKind; rw [hk]; rfl
 have f1:O7 C p.line (.Name "startpos" p)=some ("startpos":Str):=if_pos (Bool.and_eq_true_iff.mpr ⟨by rw [h1]; rfl,beq_self_eq_true _⟩)
 have f2:O7 C p.line (.Name "endpos" q)=some ("endpos":Str):=if_pos (Bool.and_eq_true_iff.mpr ⟨by rw [h2]; rfl,by rw [eq_of_beq hp]; exact beq_self_eq_true _⟩)
 have hn:[Expr.Name "startpos" p,.Name "endpos" q].filterMap (O7 C p.line)=[("startpos":Str),("endpos":Str)]:=(List.filterMap_cons_some f1).trans (congrArg _ (List.filterMap_cons_some f2))
 delta swappedStores
 dsimp only
 rw [hb]
 exact (if_neg (show ¬(false=true) from Bool.false_ne_true)).trans ((if_neg (show ¬(false=true) from Bool.false_ne_true)).trans (congrArg (fun names:List Str=>if (names.length != 2||names.eraseDups.length != names.length)=true then (pure none:Sem (Option (List Str))) else pure (some names)) hn))
noncomputable abbrev dF (want got:Str) (ws sp ep w:Option Bd):aW:=[("want",some (.val (.str want))),("got",some (.val (.str got))),("ws",ws),("startpos",sp),("endpos",ep),("w",w)]
theorem RB (x:Str) (h:x.length<=1000):x.length<=sizeLine:=by rw [sizeLine_eq]; lia
theorem IF {want got:Str} (hC:C.env.scope=aR (aT 7)) (G:Glb W) (h2:got.length<=1000) {a:Addr} {ws:List Str} {sp ep:Int} {w:Option Bd} (hz:ws.length<=1000) (hl:∀w∈ws,w.length<=1000) {d:Dat} (hd:d=.bool (if sp>ep then false else fB got ep ws sp)) :
  cD W C (n+1) (dF want got (some (.own a (ws.map .str))) (some (.val (.int sp))) (some (.val (.int ep))) w) ((dW (aT 7)).drop 8) fun fl _=>fl=.ret d\/fl=.next/\d=.none:=by
 revert hC G h2 hz hl hd;revert W C n want got a ws sp ep w d;refine no_implicit_lambda%(hK10 ?_);generalize (HK10 _).1=W,(HK10 _).2.1=C,(HK10 _).2.2.1=n,(HK10 _).2.2.2.1=want,(HK10 _).2.2.2.2.1=got,(HK10 _).2.2.2.2.2.1=a,(HK10 _).2.2.2.2.2.2.1=ws,(HK10 _).2.2.2.2.2.2.2.1=sp,(HK10 _).2.2.2.2.2.2.2.2.1=ep,(HK10 _).2.2.2.2.2.2.2.2.2=w;refine no_implicit_lambda%(hK ?_);generalize HK _=d;intro hC G h2 hz hl hd
 have kl:C.env.kindOf "len" = some .globalImplicit:=aE hC (by kernel_rfl)
 refine aP (P':=fun fl r=>if sp>ep then fl=.ret (.bool false) else fl=.next/\r=dF want got (some (.own a (ws.map .str))) (some (.val (.int sp))) (some (.val (.int ep))) w) (gJ (aN (aC (by exact aB 3 rfl)) (aC (by exact aB 4 rfl)) KY) (fun hb=>?_) fun hb=>?_) (fun r hr=>?_) fun fl r hne hr=>?_
 ·exact cN bO (by rw [if_pos (by simpa using hb)])
 ·exact aQ (by rw [if_neg (by simpa using hb)]; exact ⟨rfl,rfl⟩)
 ·by_cases hc:sp>ep
  ·rw [if_pos hc] at hr; cases hr
  ·rw [if_neg hc] at hr hd
   rw [hr.2]
   refine dK (x:="ws") (a:=a) (ρ':=dF want got (some (.val (.list (ws.map .str)))) (some (.val (.int sp))) (some (.val (.int ep))) w) (by exact aB 2 rfl) (by exact aF 2 rfl rfl) ?_
   refine aP (P':=fun fl r=>if fB got ep ws sp=true then fl=.next else fl=.ret (.bool false))
    (dU (bG (aC (by exact aB 2 rfl))) (fun i r=>∃sp' w',r=dF want got (some (.val (.list (ws.map .str)))) (some (.val (.int sp'))) (some (.val (.int ep))) w'/\fB got ep ws sp=fB got ep (ws.drop i) sp') ⟨sp,w,rfl,by rw [List.drop_zero]⟩ (fun i hi r hr=>?_) fun r hr=>?_) (fun r hr=>?_) fun fl r hne hr=>?_
   ·revert i r;refine no_implicit_lambda%(hK ?_);generalize HK _=i;intro hi;refine no_implicit_lambda%(hK ?_);generalize HK _=r;intro hr
    obtain ⟨sp',w',hq⟩:=hr; have hloop:=hq.2; obtain rfl:=hq.1
    have hi':i<ws.length:=by rw [List.length_map] at hi; exact hi
    have hx:(ws.map Dat.str)[i]=.str ws[i]:=List.getElem_map _
    have hwi:=hl ws[i] (List.getElem_mem hi')
    rw [hx]
    rw [List.drop_eq_getElem_cons hi',fB] at hloop
    refine ⟨dF want got (some (.val (.list (ws.map .str)))) (some (.val (.int sp'))) (some (.val (.int ep))) (some (.val (.str ws[i]))),aV (by exact aF 5 rfl rfl),?_⟩
    refine aI (ρ':=dF want got (some (.val (.list (ws.map .str)))) (some (.val (.int (jZ got ws[i] sp' ep)))) (some (.val (.int ep))) (some (.val (.str ws[i])))) (aY (dG (aC (by exact aB 1 rfl)) (aA (aC (by exact aB 5 rfl)) (aA (aC (by exact aB 3 rfl)) (aA (aC (by exact aB 4 rfl)) aD))) KH) (by exact aF 3 rfl rfl)) ?_
    generalize hfind:jZ got ws[i] sp' ep=q at hloop ⊢
    refine aP (P':=fun fl r=>if q<0 then fl=.ret (.bool false) else fl=.next/\r=dF want got (some (.val (.list (ws.map .str)))) (some (.val (.int q))) (some (.val (.int ep))) (some (.val (.str ws[i])))) (gJ (aN (aC (by exact aB 3 rfl)) aH tG) (fun hb=>?_) fun hb=>?_) (fun r hr=>?_) fun fl r hne hr=>?_
    ·exact cN bO (by rw [if_pos (by simpa using hb)])
    ·exact aQ (by rw [if_neg (by simpa using hb)]; exact ⟨rfl,rfl⟩)
    ·by_cases hq:q<0
     ·rw [if_pos hq] at hr; cases hr
     ·rw [if_neg hq] at hr hloop
      rw [hr.2]
      refine aI (ρ':=dF want got (some (.val (.list (ws.map .str)))) (some (.val (.int (q+ws[i].length)))) (some (.val (.int ep))) (some (.val (.str ws[i])))) (GU (by exact aB 3 rfl) (bT G.len.1 G.len.2 (aA (aC (by exact aB 5 rfl)) aD) (w7 (by lia)) kl) JP (by exact aF 3 rfl rfl)) ?_
      exact aQ ⟨_,_,rfl,hloop⟩
    ·by_cases hq:q<0
     ·rw [if_pos hq] at hr hloop
      subst hr
      show if fB got ep ws sp=true then _ else _
      rw [hloop]
      rfl
     ·rw [if_neg hq] at hr; exact absurd hr.1 hne
   ·obtain ⟨sp',w',rfl,hloop⟩:=hr
    rw [List.length_map,List.drop_length,fB] at hloop
    rw [hloop]; rfl
   ·cases hq:fB got ep ws sp with
    | false=>rw [hq] at hr; cases hr
    | true=>exact cN bO (.inl (by rw [hd,hq]))
   ·cases hq:fB got ep ws sp with
    | false=>rw [hq] at hr; left; rw [hd,hq]; exact hr
    | true=>rw [hq] at hr; exact absurd hr hne
 ·by_cases hc:sp>ep
  ·rw [if_pos hc] at hr hd; left; rw [hr,hd]
  ·rw [if_neg hc] at hr; exact absurd hr.1 hne
theorem H5 {want got:Str} (hC:C.env.scope=aR (aT 7)) (G:Glb W) (h2:got.length<=1000) {a:Addr} {ws:List Str} {sp:Int} {w:Option Bd} (hne:ws≠[]) (hz:ws.length<=1000) (hl:∀w∈ws,w.length<=1000) {d:Dat}
  (hd:d=.bool (match iC got ws with|none=>false|some (ep,ws')=>if sp>ep then false else fB got ep ws' sp)) :
  cD W C (n+1) (dF want got (some (.own a (ws.map .str))) (some (.val (.int sp))) (some (.val (.int got.length))) w) ((dW (aT 7)).drop 6) fun fl _=>fl=.ret d\/fl=.next/\d=.none:=by
 revert hC G h2 hne hz hl hd;revert W C n want got a ws sp w d;refine no_implicit_lambda%(hK10 ?_);generalize (HK10 _).1=W,(HK10 _).2.1=C,(HK10 _).2.2.1=n,(HK10 _).2.2.2.1=want,(HK10 _).2.2.2.2.1=got,(HK10 _).2.2.2.2.2.1=a,(HK10 _).2.2.2.2.2.2.1=ws,(HK10 _).2.2.2.2.2.2.2.1=sp,(HK10 _).2.2.2.2.2.2.2.2.1=w,(HK10 _).2.2.2.2.2.2.2.2.2=d;intro hC G h2 hne hz hl hd
 have kl:C.env.kindOf "len" = some .globalImplicit:=aE hC (by kernel_rfl)
 obtain ⟨us,v,rfl⟩:∃us v,ws=us++[v]:=⟨ws.dropLast,ws.getLast hne,(List.dropLast_concat_getLast hne).symm⟩
 revert us v;refine no_implicit_lambda%(hK2 ?_);generalize (HK2 _).1=us,(HK2 _).2=v;intro hne hz hl hd
 have hL:((us++[v]).map Dat.str).length=(us++[v]).length:=List.length_map _
 have hv:=hl v (by simp)
 have hlen:(us++[v]).length=us.length+1:=by simp
 have hT:iC got (us++[v])=if ((v.length:Int)!=0)=true then (if Txt.endswith got v=true then some ((got.length:Int)-v.length,us) else none) else some ((got.length:Int),us++[v]):=by
  rw [iC,List.getLast?_concat]
  rw [List.dropLast_concat]
 refine aI (ρ':=dF want got (some (.own a ((us++[v]).map .str))) (some (.val (.int sp))) (some (.val (.int got.length))) (some (.val (.str v)))) (aY (gD (d:=.str v) (x:="ws") (a:=a) (by exact aB 2 rfl) (by exact aF 2 rfl rfl) (a5 (aC (by exact aB 2 rfl)) (fN aH iU) (kT (by decide) (by rw [hL,hlen]; lia) (by decide) (by simp only [hL,hlen,show (-1+((us.length+1:Nat):Int)).toNat=us.length from by lia]; simp))) trivial) (by exact aF 5 rfl rfl)) ?_
 refine aP (P':=fun fl r=>match iC got (us++[v]) with|none=>fl=.ret (.bool false)|some (ep,ws)=>fl=.next/\r=dF want got (some (.own a (ws.map .str))) (some (.val (.int sp))) (some (.val (.int ep))) (some (.val (.str v)))) (gJ (eM (aC (by exact aB 5 rfl)) (AR (by lia))) (fun hb=>?_) fun hb=>?_) (fun r hr=>?_) fun fl r hne hr=>?_
 ·refine aP (P':=fun fl r=>match iC got (us++[v]) with|none=>fl=.ret (.bool false)|some (ep,ws)=>fl=.next/\r=dF want got (some (.own a (ws.map .str))) (some (.val (.int sp))) (some (.val (.int ep))) (some (.val (.str v)))) (gJ (eM (dG (aC (by exact aB 1 rfl)) (aA (aC (by exact aB 5 rfl)) aD) LZ) fU) (fun hb2=>?_) fun hb2=>?_) (fun r hr=>?_) fun fl r hne hr=>hr
  ·rw [hT,if_pos hb,if_pos hb2]
   refine aI (ρ':=dF want got (some (.own a ((us++[v]).map .str))) (some (.val (.int sp))) (some (.val (.int (got.length-v.length)))) (some (.val (.str v)))) (GU (by exact aB 4 rfl) (bT G.len.1 G.len.2 (aA (aC (by exact aB 5 rfl)) aD) (w7 (by lia)) kl) I6 (by exact aF 4 rfl rfl)) ?_
   refine aI (ρ':=dF want got (some (.own a (us.map .str))) (some (.val (.int sp))) (some (.val (.int (got.length-v.length)))) (some (.val (.str v)))) (F5 (a:=a) (j:=us.length) (ds:=(us++[v]).map .str) (by exact aB 2 rfl) (fN aH iU) (by rw [hL,hlen]; exact seqIndex?_neg_one (Nat.succ_pos _)) (by rw [hL,hlen]; exact Nat.lt_succ_self _) (rfl) (by rw [hL]; exact hz) ?_) ?_
   ·have:((us++[v]).map Dat.str).eraseIdx us.length=us.map .str:=by
     rw [List.map_append,List.eraseIdx_append_of_length_le (by simp)]
     simp
    rw [this]
    repeat constructor
   ·exact aQ ⟨rfl,rfl⟩
  ·rw [hT,if_pos hb,if_neg (by rw [hb2]; decide)]
   exact cN bO rfl
  ·cases he:iC got (us++[v]) with
   | none=>rw [he] at hr; cases hr
   | some q=>rw [he] at hr; exact aQ (by rw [hr.2]; exact ⟨rfl,rfl⟩)
 ·rw [hT,if_neg (by rw [hb]; decide)]
  exact aQ ⟨rfl,rfl⟩
 ·cases he:iC got (us++[v]) with
  | none=>rw [he] at hr; cases hr
  | some q =>
   obtain ⟨ep,ws'⟩:=q
   revert r ep ws';refine no_implicit_lambda%(hK ?_);generalize HK _=r;intro hr;refine no_implicit_lambda%(hK2 ?_);generalize (HK2 _).1=ep,(HK2 _).2=ws';intro he
   rw [he] at hr hd
   rw [hr.2]
   have hq:ws'.length<=1000/\∀w∈ws',w.length<=1000:=by
    rw [hT] at he
    split at he
    ·split at he
     ·cases he
      exact ⟨by lia,fun x hx=>hl x (List.mem_append.mpr (.inl hx))⟩
     ·cases he
    ·cases he; exact ⟨hz,hl⟩
   exact IF hC G h2 hq.1 hq.2 hd
 ·cases he:iC got (us++[v]) with
  | none=>rw [he] at hr hd; left; rw [hr,hd]
  | some q=>rw [he] at hr; exact absurd hr.1 hne
theorem H7 {want got:Str} (hC:C.env.scope=aR (aT 7)) (G:Glb W) (hc:Txt.contains want "..." = true) (h1:want.length<=1000) (h2:got.length<=1000) (hs:2<=(Txt.split want "...").length/\(Txt.split want "...").length<=900)
  (hl:∀w∈Txt.split want "...",w.length<=1000) (hpb:(Builtin.Str.partsBetween want (Builtin.Str.occurrences want "..." 0 want.length (want.length+1)) ("...":Str).length).length<=sizeLine)
  (hm:∃t,W.mg "ELLIPSIS_MARKER" = some (.str "..." t)) {d:Dat} (hd:d=.bool (em want got)) :
  cD W C (n+1) (dF want got none none none none) ((dW (aT 7)).drop 1) fun fl _=>fl=.ret d\/fl=.next/\d=.none:=by
 revert hC G hc h1 h2 hs hl hpb hm hd;revert W C n want got d;refine no_implicit_lambda%(hK6 ?_);generalize (HK6 _).1=W,(HK6 _).2.1=C,(HK6 _).2.2.1=n,(HK6 _).2.2.2.1=want,(HK6 _).2.2.2.2.1=got,(HK6 _).2.2.2.2.2=d;intro hC G hc h1 h2 hs hl hpb hm hd
 obtain ⟨mt,hm⟩:=hm
 have km:C.env.kindOf "ELLIPSIS_MARKER" = some .globalImplicit:=aE hC (by kernel_rfl)
 have kl:C.env.kindOf "len" = some .globalImplicit:=aE hC (by kernel_rfl)
 have ks:C.env.kindOf "startpos" = some .local:=aE hC (by kernel_rfl)
 have ke:C.env.kindOf "endpos" = some .local:=aE hC (by kernel_rfl)
 rw [em,hc,if_pos rfl] at hd
 refine iG (BX (aC .head) (oB hm km) (rfl) (RB _ h1) hpb) (hp:=fun a=>⟨dF want got (some (.own a ((Txt.split want "...").map .str))) none none none,by exact aF 2 rfl rfl,?_⟩)
 revert mt a;refine no_implicit_lambda%(hK ?_);generalize HK _=mt;intro hm;refine no_implicit_lambda%(hK ?_);generalize HK _=a
 generalize Txt.split want "..." = wl at hs hl hd
 have hls:wl.length<=1000:=by lia
 have hL:(wl.map Dat.str).length=wl.length:=List.length_map _
 refine aI (DO (wY (x:="ws") (a:=a) (by exact aB 2 rfl) (by exact aF 2 rfl rfl) (dV (aN (bT G.len.1 G.len.2 (aA (aC (by exact aB 2 rfl)) aD) (lN (by lia)) kl) aH NZ) (by rw [hL]; simp; lia)))) ?_
 refine aI (ρ':=dF want got (some (.own a (wl.map .str))) (some (.val (.int 0))) (some (.val (.int got.length))) none) (zT (bF (aA aH (aA (bT G.len.1 G.len.2 (aA (aC (by exact aB 1 rfl)) aD) (w7 (by lia)) kl) aD))) (by exact aF 4 rfl rfl) (by exact aF 3 rfl rfl) (fun hk=>zN rfl ks ke hk _ _)) ?_
 match wl,hs,hl,hls,hL,hd with
 | [],hs,_,_,_,_=>exact absurd hs.1 (by decide)
 | w::wr,hs,hl,hls,hL,hd =>
  revert wl w wr;refine no_implicit_lambda%(hK ?_);generalize HK _=wl;intro hs hl hd hls hL;refine no_implicit_lambda%(hK2 ?_);generalize (HK2 _).1=w,(HK2 _).2=wr;intro hs hl hls hL hd
  have hw:=hl w List.mem_cons_self
  refine aI (ρ':=dF want got (some (.own a ((w::wr).map .str))) (some (.val (.int 0))) (some (.val (.int got.length))) (some (.val (.str w)))) (aY (gD (d:=.str w) (x:="ws") (a:=a) (by exact aB 2 rfl) (by exact aF 2 rfl rfl) (a5 (aC (by exact aB 2 rfl)) aH (dB (by decide) (by decide) rfl)) trivial) (by exact aF 5 rfl rfl)) ?_
  refine aP (P':=fun fl r=>match gN got (w::wr) with|none=>fl=.ret (.bool false)|some (sp,ws)=>fl=.next/\r=dF want got (some (.own a (ws.map .str))) (some (.val (.int sp))) (some (.val (.int got.length))) (some (.val (.str w)))) (gJ (eM (aC (by exact aB 5 rfl)) (AR (by lia))) (fun hb=>?_) fun hb=>?_) (fun r hr=>?_) fun fl r hne hr=>?_
  ·refine aP (P':=fun fl r=>match gN got (w::wr) with|none=>fl=.ret (.bool false)|some (sp,ws)=>fl=.next/\r=dF want got (some (.own a (ws.map .str))) (some (.val (.int sp))) (some (.val (.int got.length))) (some (.val (.str w)))) (gJ (eM (dG (aC (by exact aB 1 rfl)) (aA (aC (by exact aB 5 rfl)) aD) vR) fU) (fun hb2=>?_) fun hb2=>?_) (fun r hr=>?_) fun fl r hne hr=>hr
   ·rw [gN,if_pos hb,if_pos hb2]
    refine aI (ρ':=dF want got (some (.own a ((w::wr).map .str))) (some (.val (.int w.length))) (some (.val (.int got.length))) (some (.val (.str w)))) (aY (bT G.len.1 G.len.2 (aA (aC (by exact aB 5 rfl)) aD) (w7 (by lia)) kl) (by exact aF 3 rfl rfl)) ?_
    refine aI (ρ':=dF want got (some (.own a (wr.map .str))) (some (.val (.int w.length))) (some (.val (.int got.length))) (some (.val (.str w)))) (F5 (a:=a) (j:=0) (ds:=(w::wr).map .str) (by exact aB 2 rfl) aH (by rw [hL]; exact seqIndex?_zero (by simp)) (by simp) (rfl) (by rw [hL]; exact hls) (by exact aF 2 rfl rfl)) ?_
    exact aQ ⟨rfl,rfl⟩
   ·rw [gN,if_pos hb,if_neg (by rw [hb2]; decide)]
    exact cN bO rfl
   ·cases he:gN got (w::wr) with
    | none=>rw [he] at hr; cases hr
    | some q=>rw [he] at hr; exact aQ (by rw [hr.2]; exact ⟨rfl,rfl⟩)
  ·rw [gN,if_neg (by rw [hb]; decide)]
   exact aQ ⟨rfl,rfl⟩
  ·cases he:gN got (w::wr) with
   | none=>rw [he] at hr; cases hr
   | some q =>
    obtain ⟨sp,ws⟩:=q
    revert r sp ws;refine no_implicit_lambda%(hK ?_);generalize HK _=r;intro hr;refine no_implicit_lambda%(hK2 ?_);generalize (HK2 _).1=sp,(HK2 _).2=ws;intro he
    rw [he] at hr hd
    rw [hr.2]
    have hne:ws≠[]/\ws.length<=1000/\∀w∈ws,w.length<=1000:=by
     rw [gN] at he
     split at he
     ·split at he
      ·cases he
       refine ⟨fun z=>?_,?_,fun x hx=>hl x (List.mem_cons_of_mem _ hx)⟩
       ·subst z; exact absurd hs.1 (by simp)
       ·simp only [List.length_cons] at hls; lia
      ·cases he
     ·cases he; exact ⟨List.cons_ne_nil _ _,hls,hl⟩
    exact H5 hC G h2 hne.1 hne.2.1 hne.2.2 hd
  ·cases he:gN got (w::wr) with
   | none=>rw [he] at hr hd; left; rw [hr,hd]
   | some q=>rw [he] at hr; exact absurd hr.1 hne
theorem JY {f:Addr} {want got:Str} (D:DefAt W f (aT 7) ["want","got"]) (G:Glb W) (hm:∃t,W.mg "ELLIPSIS_MARKER" = some (.str "..." t)) (h1:want.length<=1000) (h2:got.length<=1000)
  (hs:Txt.contains want "..." = true->2<=(Txt.split want "...").length/\(Txt.split want "...").length<=900) (hl:∀w∈Txt.split want "...",w.length<=1000) (hpb:(Builtin.Str.partsBetween want (Builtin.Str.occurrences want "..." 0 want.length (want.length+1)) ("...":Str).length).length<=sizeLine):Fn W (n+2) f [.str want,.str got] (.bool (em want got)):=by
 revert W n f want got;refine no_implicit_lambda%(hK5 ?_);generalize (HK5 _).1=W,(HK5 _).2.1=n,(HK5 _).2.2.1=f,(HK5 _).2.2.2.1=want,(HK5 _).2.2.2.2=got;intro D G hm h1 h2 hs hl hpb
 refine jY (rest:=["ws","startpos","endpos","w"]) D (by kernel_rfl) rfl fun C hC hf=>?_
 obtain ⟨mt,hmt⟩:=id hm
 have km:C.env.kindOf "ELLIPSIS_MARKER" = some .globalImplicit:=aE hC (by kernel_rfl)
 show cD W C (n+1) (dF want got none none none none) _ _
 refine aP (P':=fun fl r=>if Txt.contains want "..." = true then fl=.next/\r=dF want got none none none none else fl=.ret (.bool (want==got))) (gJ (aN (oB hmt km) (aC .head) C2) (fun hb=>?_) (fun hb=>?_)) ?_ ?_
 ·have:Txt.contains want "..." = false:=by simpa using hb
  refine cN (kN (aC .head) (aC (.tail .head)) (gV rfl)) ?_
  rw [this,if_neg (by decide)]; rfl
 ·have:Txt.contains want "..." = true:=by simpa using hb
  refine aQ ?_
  rw [this,if_pos rfl]; exact ⟨rfl,rfl⟩
 ·intro r hr
  cases hc:Txt.contains want "..." with
  | false=>rw [hc,if_neg (by decide)] at hr; cases hr
  | true =>
   rw [hc,if_pos rfl] at hr
   rw [hr.2]
   exact H7 hC G hc h1 h2 (hs hc) hl hpb hm rfl
 ·intro fl r hne hr
  cases hc:Txt.contains want "..." with
  | true=>rw [hc,if_pos rfl] at hr; exact absurd hr.1 hne
  | false =>
   rw [hc,if_neg (by decide)] at hr
   left
   rw [hr,em,hc,if_neg (by decide)]
end
section
variable {W:Wd} {C:Cx} {n:Nat} {ρ ρ':aW} {P:Fl->aW->Prop}
theorem cP {t:Expr} {r:Expr} {pos pos':Pos} {b:Bool} {d:Dat} {rest:List Stmt} (h:sH W C n ρ t b) (hr:b=true->Ev W C n ρ r d/\P (.ret d) ρ) (hn:b=false->cD W C n ρ rest P):cD W C n ρ (.If t [.Return (some r) pos'] [] pos::rest) P:=by
 refine aP (P':=fun fl r=>if b=true then fl=.ret d/\r=ρ else fl=.next/\r=ρ) (gJ h (fun hb=>?_) fun hb=>?_) (fun r hr'=>?_) fun fl r hne hr'=>?_
 ·exact cN (hr hb).1 (by rw [if_pos hb]; exact ⟨rfl,rfl⟩)
 ·exact aQ (by rw [if_neg (by rw [hb]; decide)]; exact ⟨rfl,rfl⟩)
 ·cases b with
  | true=>rw [if_pos rfl] at hr'; cases hr'.1
  | false=>rw [if_neg (by decide)] at hr'; rw [hr'.2]; exact hn rfl
 ·cases b with
  | true=>rw [if_pos rfl] at hr'; rw [hr'.1,hr'.2]; exact (hr rfl).2
  | false=>rw [if_neg (by decide)] at hr'; exact absurd hr'.1 hne
structure FnName (W:Wd) (x:Str) (f:Addr):Prop where
 mg:W.mg x=some (.ref f)
 is:∃fd,IsFn W f fd
theorem bI {x:Str} {p pos:Pos} {args:List Expr} {ds:List Dat} {d:Dat} {f:Addr} (N:FnName W x f) (ha:w6 W C n ρ args ds) (h:Fn W n f ds d) (hk:C.env.kindOf x=some .globalImplicit)
  (he:autoParam (∀env pos,∃t ts,backTo pos (starEach args env)=(false,t)::ts) Mine.OC._auto_1) (hd:autoParam ((x==("__debug__":Str))=false) Mine.aC._auto_1):Ev W C n ρ (.Call (.Name x p) args [] pos) d:=by
 obtain ⟨fd,hf⟩:=N.is
 exact OC N.mg hf ha h hk he hd
noncomputable def sA (a b:Str) (ha hb:Bool):Bool:=
 if a==b then true else if !ha then false else if Txt.rfind a b == -1||Txt.rfind a b==0 then false else if !Txt.startswith b "." then false else if !hb then false else true
theorem J2 {f fH:Addr} {A B:Str} {ha hb:Bool} (D:DefAt W f (aT 14) ["A","B"]) (N:FnName W "is_HDN" fH) (hA:(Txt.lower A).length<=1000) (hB:(Txt.lower B).length<=1000)
  (H1:(Txt.lower A==Txt.lower B)=false->Fn W (n+1) fH [.str (Txt.lower A)] (.bool ha)) (H2:Fn W (n+1) fH [.str (Txt.slice (Txt.lower B) (some 1) none)] (.bool hb)):Fn W (n+2) f [.str A,.str B] (.bool (sA (Txt.lower A) (Txt.lower B) ha hb)):=by
 revert W n f fH A B ha hb;refine no_implicit_lambda%(hK8 ?_);generalize (HK8 _).1=W,(HK8 _).2.1=n,(HK8 _).2.2.1=f,(HK8 _).2.2.2.1=fH,(HK8 _).2.2.2.2.1=A,(HK8 _).2.2.2.2.2.1=B,(HK8 _).2.2.2.2.2.2.1=ha,(HK8 _).2.2.2.2.2.2.2=hb;intro D N hA hB H1 H2
 have tl:∀x:Str,x.length<=1000->Builtin.Str.tooLong x.length=false:=fun x h=>by
  unfold Builtin.Str.tooLong
  exact decide_eq_false (by have:=sizeLine_eq; lia)
 refine jY (rest:=["i"]) D (by kernel_rfl) rfl fun C hC hf=>?_
 have kH:C.env.kindOf "is_HDN" = some .globalImplicit:=aE hC (by kernel_rfl)
 show cD W C (n+1) [("A",some (.val (.str A))),("B",some (.val (.str B))),("i",none)] _ _
 refine aI (ρ':=[("A",some (.val (.str (Txt.lower A)))),("B",some (.val (.str B))),("i",none)]) (aY (dJ (aC (by exact aB 0 rfl)) (BJ (tl _ hA))) (by exact aF 0 rfl rfl)) ?_
 refine aI (ρ':=[("A",some (.val (.str (Txt.lower A)))),("B",some (.val (.str (Txt.lower B)))),("i",none)]) (aY (dJ (aC (by exact aB 1 rfl)) (BJ (tl _ hB))) (by exact aF 1 rfl rfl)) ?_
 generalize Txt.lower A=a at *
 generalize Txt.lower B=b at *
 refine cP (aN (aC (by exact aB 0 rfl)) (aC (by exact aB 1 rfl)) (gV rfl)) (fun h=>⟨bO,.inl ?_⟩) fun h1=>?_
 ·rw [sA,if_pos (by simpa [rC,sC] using h)]
 have h1:(a==b)=false:=by simpa [rC,sC] using h1
 refine cP (mO (eM (bI N (aA (aC (by exact aB 0 rfl)) aD) (H1 h1) kH) fU)) (fun h=>⟨bO,.inl ?_⟩) fun h2=>?_
 ·rw [sA,h1,if_neg (by decide),if_pos h]
 refine aI (ρ':=[("A",some (.val (.str a))),("B",some (.val (.str b))),("i",some (.val (.int (Txt.rfind a b))))]) (aY (dG (aC (by exact aB 0 rfl)) (aA (aC (by exact aB 1 rfl)) aD) I0) (by exact aF 2 rfl rfl)) ?_
 refine cP (cF (.or (aN (aC (by exact aB 2 rfl)) (fN aH iU) (gV rfl)) fun _=>.or (aN (aC (by exact aB 2 rfl)) aH (gV rfl)) fun _=>.nil)) (fun h=>⟨bO,.inl ?_⟩) fun h3=>?_
 ·rw [sA,h1,if_neg (by decide),h2,if_neg (by decide),if_pos (by simpa [rC,sC] using h)]
 have h3:(Txt.rfind a b == -1||Txt.rfind a b==0)=false:=by simpa [rC,sC] using h3
 refine cP (mO (eM (dG (aC (by exact aB 1 rfl)) (aA aS aD) vR) fU)) (fun h=>⟨bO,.inl ?_⟩) fun h4=>?_
 ·rw [sA,h1,if_neg (by decide),h2,if_neg (by decide),h3,if_neg (by decide),if_pos h]
 refine cP (mO (eM (bI N (aA (i5 (aC (by exact aB 1 rfl)) (bZ aH) cT (RB _ hB)) aD) H2 kH) fU)) (fun h=>⟨bO,.inl ?_⟩) fun h5=>?_
 ·rw [sA,h1,if_neg (by decide),h2,if_neg (by decide),h3,if_neg (by decide),h4,if_neg (by decide),if_pos h]
 exact cN bO (.inl (by rw [sA,h1,if_neg (by decide),h2,if_neg (by decide),h3,if_neg (by decide),h4,if_neg (by decide),h5,if_neg (by decide)]))
noncomputable def rowSt (number:Int):Nat->List Str×Str×Int
 | 0=>(["a","b","c","d","e"],"",number)
 | i+1=>((rowSt number i).1.eraseIdx ((rowSt number i).2.2.fmod (5-i:Nat)).toNat,(rowSt number i).2.1++(rowSt number i).1.getD ((rowSt number i).2.2.fmod (5-i:Nat)).toNat "",(rowSt number i).2.2.fdiv (5-i:Nat))
theorem lX (a:Int) {k:Nat} (h:0<k):0<=a.fmod k/\(a.fmod k).toNat<k/\a.fmod k<k:=by
 have hk:(0:Int)<k:=Int.ofNat_lt.mpr h
 have h0:=Int.fmod_nonneg_of_pos a hk
 have h1:=Int.fmod_lt_of_pos a hk
 exact ⟨h0,(Int.toNat_lt h0).mpr h1,h1⟩
theorem sQ (number:Int) (i:Nat):i<=5->(rowSt number i).1.length=5-i/\(∀x∈(rowSt number i).1,x.length=1)/\(rowSt number i).2.1.length=i:=by
 induction i with
 | zero=>exact fun _=>⟨rfl,(by decide:∀x∈(["a","b","c","d","e"]:List Str),x.length=1),rfl⟩
 | succ i ih =>
  intro h
  have hq:=ih (Nat.le_of_succ_le h)
  have h1:=hq.1
  have q1:=(lX (rowSt number i).2.2 (k:=5-i) (Nat.sub_pos_of_lt h)).2.1
  rw [←h1] at q1
  refine ⟨?_,fun x hx=>hq.2.1 x (List.mem_of_mem_eraseIdx hx),?_⟩
  ·refine (List.length_eraseIdx_of_lt ?_).trans (congrArg Nat.pred h1)
   rw [←h1]; exact q1
  ·show ((rowSt number i).2.1++(rowSt number i).1.getD _ "").length=_
   rw [size_cat,hq.2.2,List.getD_eq_getElem?_getD,List.getElem?_eq_getElem (by rw [←h1]; exact q1),Option.getD_some,hq.2.1 _ (List.getElem_mem _)]
theorem nH {α β:Type} (f:α->β):∀(l:List α) (k:Nat),(l.map f).eraseIdx k=(l.eraseIdx k).map f
 | [],_=>rfl
 | _::_,0=>rfl
 | a::l,k+1=>by rw [List.map_cons,List.eraseIdx_cons_succ,List.eraseIdx_cons_succ,List.map_cons,nH f l k]
noncomputable def oN (number:Int):Str:=(rowSt number 5).2.1
theorem vP {f:Addr} {number:Int} (D:DefAt W f (aT 16) ["number"]) (G:Glb W):Fn W (n+1) f [.int number] (.str (oN number)):=by
 revert W n f number;refine no_implicit_lambda%(hK4 ?_);generalize (HK4 _).1=W,(HK4 _).2.1=n,(HK4 _).2.2.1=f,(HK4 _).2.2.2=number;intro D G
 refine jY (rest:=["rest","row","size"]) D (by kernel_rfl) rfl fun C hC hf=>?_
 have kr:C.env.kindOf "range" = some .globalImplicit:=aE hC (by kernel_rfl)
 show cD W C n [("number",some (.val (.int number))),("rest",none),("row",none),("size",none)] _ _
 refine iG (dZ (aA aS (aA aS (aA aS (aA aS (aA aS aD)))))) (hp:=fun a=>⟨[("number",some (.val (.int number))),("rest",some (.own a ((rowSt number 0).1.map .str))),("row",none),("size",none)],by exact aF 1 rfl rfl,?_⟩)
 refine aI (ρ':=[("number",some (.val (.int number))),("rest",some (.own a ((rowSt number 0).1.map .str))),("row",some (.val (.str ""))),("size",none)]) (aY aS (by exact aF 2 rfl rfl)) ?_
 refine aP (P':=fun fl r=>fl=.next/\∃x,r=([("number",some (.val (.int (rowSt number 5).2.2))),("rest",some (.own a ((rowSt number 5).1.map .str))),("row",some (.val (.str (rowSt number 5).2.1))),("size",x)]:aW))
  (dU (ds:=cG 5 (-1) 5) (bR G.range.1 G.range.2 kr (aA aH (aA aH (aA (fN aH iU) aD))) (LA (by decide) (mN (by decide))) (PySem.W.small_down (by decide) (by decide) (by decide) (by decide)) (by decide))
   (fun i r=>∃x,r=([("number",some (.val (.int (rowSt number i).2.2))),("rest",some (.own a ((rowSt number i).1.map .str))),("row",some (.val (.str (rowSt number i).2.1))),("size",x)]:aW)) ⟨none,rfl⟩ (fun i hi r hr=>?_) fun r hr=>?_) (fun r hr=>?_) fun fl r hne hr=>absurd hr.1 hne
 ·obtain ⟨x,rfl⟩:=hr
  rw [bU] at hi
  obtain ⟨h1,h2,h3⟩:=sQ number i (by lia)
  obtain ⟨q0,q1,q2⟩:=lX (rowSt number i).2.2 (k:=5-i) (by lia)
  rw [cZ,show (5:Int)+i * -1=((5-i:Nat):Int) from by rw [Int.mul_neg,Int.mul_one,Int.ofNat_sub (Nat.le_of_lt hi)]; rfl]
  have hg:(rowSt number i).1[((rowSt number i).2.2.fmod (5-i:Nat)).toNat]? = some ((rowSt number i).1.getD ((rowSt number i).2.2.fmod (5-i:Nat)).toNat ""):=by
   rw [List.getD_eq_getElem?_getD,List.getElem?_eq_getElem (by rw [h1]; exact q1),Option.getD_some]
  have hx:=h2 _ (List.mem_of_getElem? hg)
  refine ⟨[("number",some (.val (.int (rowSt number i).2.2))),("rest",some (.own a ((rowSt number i).1.map .str))),("row",some (.val (.str (rowSt number i).2.1))),("size",some (.val (.int ((5-i:Nat):Int))))],aV (by exact aF 3 rfl rfl),?_⟩
  refine aI (ρ':=[("number",some (.val (.int (rowSt number i).2.2))),("rest",some (.own a ((rowSt number (i+1)).1.map .str))),("row",some (.val (.str (rowSt number (i+1)).2.1))),("size",some (.val (.int ((5-i:Nat):Int))))])
   (zV (ρ':=[("number",some (.val (.int (rowSt number i).2.2))),("rest",some (.own a ((rowSt number (i+1)).1.map .str))),("row",some (.val (.str (rowSt number i).2.1))),("size",some (.val (.int ((5-i:Nat):Int))))]) (DC (GX (aC (by exact aB 2 rfl))) (BZ (a:=a) (ds:=(rowSt number i).1.map .str) (by exact aB 1 rfl) (aJ (aC (by exact aB 0 rfl)) (aC (by exact aB 3 rfl)) (lU (by lia))) q0 (by lia) (by rw [List.getElem?_map,hg]; rfl) ?_ (by rw [List.length_map,h1]; lia)) (cI (by rw [h3,hx,sizeLine_eq]; lia))) (by exact aF 2 rfl rfl)) ?_
  ·have:((rowSt number i).1.map Dat.str).eraseIdx ((rowSt number i).2.2.fmod (5-i:Nat)).toNat=(rowSt number (i+1)).1.map .str:=by
    rw [nH]; rfl
   rw [this]; repeat constructor
  refine aI (ρ':=[("number",some (.val (.int (rowSt number (i+1)).2.2))),("rest",some (.own a ((rowSt number (i+1)).1.map .str))),("row",some (.val (.str (rowSt number (i+1)).2.1))),("size",some (.val (.int ((5-i:Nat):Int))))])
   (aY (aJ (aC (by exact aB 0 rfl)) (aC (by exact aB 3 rfl)) (vK (by lia) (mN ?_))) (by exact aF 0 rfl rfl)) ?_
  ·refine F8 (show i<5 by lia) ?_ ?_ ?_ ?_ ?_<;>decide
  exact aQ ⟨_,rfl⟩
 ·obtain ⟨x,rfl⟩:=hr
  exact ⟨rfl,x,rfl⟩
 ·obtain ⟨_,x,rfl⟩:=hr
  exact cN (aC (by exact aB 2 rfl)) (.inl rfl)
end
section
variable {W:Wd} {C:Cx} {n:Nat} {ρ ρ':aW} {P:Fl->aW->Prop}
noncomputable def GK:Dat->Option (Int×Dat)
 | .tuple [.int a,x]=>some (a,x)
 | _=>none
noncomputable def F6:Dat->Option Int
 | .int p=>some p
 | _=>none
noncomputable def MQ (p q:Int×Dat):Option Bool:=
 if p.1=q.1 then (if kin 7 p.2 q.2=true then (if eJ p.2 q.2=true then some false else (F6 p.2).bind fun i=>(F6 q.2).bind fun j=>some (decide (i<j))) else none) else some (decide (p.1<q.1))
noncomputable def DU (d e:Dat):Option Bool:=(GK d).bind fun p=>(GK e).bind fun q=>MQ p q
theorem AY {d:Dat} {i:Int}:F6 d=some i->d=.int i:=by
 cases d with
 | int=>exact fun h=>congrArg _ (Option.some.inj h)
 | _=>exact none_
theorem xX {d:Dat} {p:Int×Dat}:GK d=some p->d=.tuple [.int p.1,p.2]:=by
 cases d with
 | tuple l=>cases l with
  | nil=>exact none_
  | cons a l=>cases l with
   | nil=>cases a<;>exact none_
   | cons x l=>cases l with
    | nil=>cases a with
     | int i=>exact fun h=>Option.some.inj h▸rfl
     | _=>exact none_
    | cons=>cases a<;>exact none_
 | _=>exact none_
theorem FW {d e:Dat} {b:Bool} (h:DU d e=some b):∃p q,d=.tuple [.int p.1,p.2]/\e=.tuple [.int q.1,q.2]/\MQ p q=some b:=
 (Option.bind_eq_some_iff.mp h).elim fun p z=>(Option.bind_eq_some_iff.mp z.2).elim fun q y=>⟨p,q,xX z.1,xX y.1,y.2⟩
theorem uQ {a b:Int} {x y:Dat} (h:a≠b):DU (.tuple [.int a,x]) (.tuple [.int b,y])=some (decide (a<b)):=if_neg h
theorem qR {a:Int} {x:Dat} (h:kin 7 x x=true):DU (.tuple [.int a,x]) (.tuple [.int a,x])=some false:=(if_pos rfl).trans ((if_pos h).trans (if_pos (cM _)))
theorem JN {a i j:Int} (h:i≠j):DU (.tuple [.int a,.int i]) (.tuple [.int a,.int j])=some (decide (i<j)):=(if_pos rfl).trans ((if_pos rfl).trans (if_neg fun e=>h (eq_of_beq e)))
theorem FE {x y:Dat} {b:Bool} (h:((F6 x).bind fun i=>(F6 y).bind fun j=>some (decide (i<j)))=some b):∃p q:Int,x=.int p/\y=.int q/\decide (p<q)=b:=
 (Option.bind_eq_some_iff.mp h).elim fun i z=>(Option.bind_eq_some_iff.mp z.2).elim fun j y=>⟨i,j,AY z.1,AY y.1,Option.some.inj y.2⟩
theorem MA {A:Around} {s:Shared} {g:Gh} {v u:Value} {d e:Dat} {b:Bool} {Q:Bool->Shared->Prop} {E:Value->Shared->Prop} (hu:A.units+8<cLine) (G:pE W g s.heap) (h1:DatIn g v d) (h2:DatIn g u e) (hb:DU d e=some b) (h:Q b s) :
  wpAny (model W.prog W.w) A (keyLt' (tuples' true) v u) Q E s:=by
 revert W A s g v u d e b Q E;refine no_implicit_lambda%(hK10 ?_);generalize (HK10 _).1=W,(HK10 _).2.1=A,(HK10 _).2.2.1=s,(HK10 _).2.2.2.1=g,(HK10 _).2.2.2.2.1=v,(HK10 _).2.2.2.2.2.1=u,(HK10 _).2.2.2.2.2.2.1=d,(HK10 _).2.2.2.2.2.2.2.1=e,(HK10 _).2.2.2.2.2.2.2.2.1=b,(HK10 _).2.2.2.2.2.2.2.2.2=Q;refine no_implicit_lambda%(hK ?_);generalize HK _=E;intro hu G h1 h2 hb h
 obtain ⟨⟨i,x⟩,⟨j,y⟩,rfl,rfl,hb'⟩:=FW hb
 revert i x j y;refine no_implicit_lambda%(hK4 ?_);generalize (HK4 _).1=i,(HK4 _).2.1=x,(HK4 _).2.2.1=j,(HK4 _).2.2.2=y;intro h1 hb' h2 hb
 refine j4 (fun a vs n m1 r1=>?_) h1
 refine j4 (fun b' us m m2 r2=>?_) h2
 revert m1 m2
 refine sB (fun v1 v2 a1 a2=>?_) r1
 refine sB (fun u1 u2 b1 b2=>?_) r2
 refine cA (fun t1=>?_) a1
 refine cA (fun t2=>?_) b1
 intro m1 m2
 refine kat_lt (G _ m1).1 rfl (G _ m2).1 rfl (kat_cons ?_)
 delta MQ at hb'
 dsimp only at hb'
 refine (EqAt.int_int _ _ _ _:EqAt A s _ _ _) _ _ _ _ ?_
 by_cases hij:i=j
 ·rw [if_pos hij] at hb'
  rw [show (i==j)=true from by simpa using hij]
  refine kat_yes (kat_cons ?_)
  by_cases hk:kin 7 x y=true
  ·rw [if_pos hk] at hb'
   refine iX 7 A s g _ _ _ _ (by lia) G hk a2 b2 _ _ _ _ ?_
   by_cases he:eJ x y=true
   ·rw [if_pos he] at hb'
    rw [he]
    refine kat_yes (kat_nil ?_)
    cases hb'
    exact h
   ·rw [if_neg he] at hb'
    rw [Bool.not_eq_true] at he
    rw [he]
    refine kat_no ?_
    obtain ⟨p,q,rfl,rfl,rfl⟩:=FE hb'
    refine cA (fun t3=>?_) a2
    refine cA (fun t4=>?_) b2
    exact kat_one _ _ (P.lt_int h)
  ·rw [if_neg hk] at hb'; cases hb'
 ·rw [if_neg hij] at hb'
  rw [show (i==j)=false from by simpa using hij]
  refine kat_no ?_
  cases hb'
  exact oneLt_int h
noncomputable def HZ {α:Type} (lt:Nat->Nat->Option Bool):KasT α->Option α
 | .ret a=>some a
 | .ask i j k=>(lt i j).bind fun b=>HZ lt (k b)
theorem JT {α:Type} {lt:Nat->Nat->Option Bool} {cmp:Nat->Nat->(Bool->Shared->Prop)->Shared->Prop} {s:Shared} (hc:∀i j b (K:Bool->Shared->Prop),lt i j=some b->K b s->cmp i j K s) {Q:α->Shared->Prop} (t:KasT α):∀(a:α),HZ lt t=some a->Q a s->t.kasWp cmp Q s:=by
 induction t with
 | ret a=>exact fun b h hq=>Option.some.inj h▸hq
 | ask i j k ih=>exact fun a h hq=>(Option.bind_eq_some_iff.mp h).elim fun b z=>hc i j b _ z.1 (ih b a z.2 hq)
noncomputable def wO (ds:List Dat) (i j:Nat):Option Bool:=ds[i]?.bind fun d=>ds[j]?.bind fun e=>DU d e
noncomputable def s9 (ds:List Dat):List Nat->Option (List Dat)
 | []=>some []
 | i::r=>ds[i]?.bind fun d=>(s9 ds r).bind fun l=>some (d::l)
noncomputable def eO (ds:List Dat):Option (List Dat):=
 if ds.length<2 then some ds else (HZ (wO ds) (kas_sort ds.length)).bind fun p=>s9 ds p.toList
theorem u9 {g:Gh} {vs:List Value} {ds:List Dat} (r:DatAll g vs ds) {i:Nat} {d:Dat} (h:ds[i]? = some d):DatIn g (vs.getD i Value.none) d:=by
 obtain ⟨v,hq⟩:=DatAll.at r h
 have e:vs[i]? = some v:=by simpa using hq.1
 rw [List.getD_eq_getElem?_getD,e]
 exact hq.2
theorem GY {g:Gh} {vs:List Value} {ds:List Dat} (r:DatAll g vs ds) (p:List Nat):∀(es:List Dat),s9 ds p=some es->DatAll g (p.map fun i=>vs.getD i Value.none) es:=by
 induction p with
 | nil=>exact fun es h=>Option.some.inj h▸.nil
 | cons i p ih=>exact fun es h=>(Option.bind_eq_some_iff.mp h).elim fun d z=>(Option.bind_eq_some_iff.mp z.2).elim fun l y=>Option.some.inj y.2▸.cons (u9 r z.1) (ih l y.1)
theorem MR {A:Around} {s:Shared} {g:Gh} {vs:List Value} {ds:List Dat} {i j:Nat} {b:Bool} {Q:Bool->Shared->Prop} {E:Value->Shared->Prop} (hu:A.units+8<cLine) (G:pE W g s.heap) (r:DatAll g vs ds) (hl:wO ds i j=some b) (h:Q b s) :
  wpAny (model W.prog W.w) A (keyLt' (tuples' true) (vs.getD i Value.none) (vs.getD j Value.none)) Q E s:=
 (Option.bind_eq_some_iff.mp hl).elim fun d z=>(Option.bind_eq_some_iff.mp z.2).elim fun e y=>MA hu G (u9 r z.1) (u9 r y.1) y.2 h
noncomputable def m6:Dat->Bool
 | .tuple (.int _::_)=>true
 | _=>false
theorem C5 {d:Dat}:m6 d=true->∃i l,d=.tuple (.int i::l):=by
 cases d with
 | tuple l=>cases l with
  | nil=>exact jD
  | cons a l=>cases a with
   | int i=>exact fun _=>⟨i,l,rfl⟩
   | _=>exact jD
 | _=>exact jD
theorem HH {g:Gh} {h:Heap} (G:pE W g h) {vs:List Value} {ds:List Dat} (r:DatAll g vs ds):ds.all m6=true->∃fs,fs.length=ds.length/\KatTups h vs fs/\∀f∈fs,∃i t,f=Value.int i t:=
 iM (M:=fun vs ds=>ds.all m6=true->∃fs,fs.length=ds.length/\KatTups h vs fs/\∀f∈fs,∃i t,f=Value.int i t) (fun _=>⟨[],rfl,KatTups.nil,fun _ h=>nomatch h⟩)
  (fun v vs d ds h1 _ ih ha=>by
   have ha:=Bool.and_eq_true_iff.mp ha
   obtain ⟨fs,hq⟩:=ih ha.2
   obtain ⟨i,l,rfl⟩:=C5 ha.1
   refine j4 (M:=fun v=>∃fs,fs.length=ds.length+1/\KatTups h (v::vs) fs/\∀f∈fs,∃i t,f=Value.int i t) (fun a us n m rr=>?_) h1
   revert m
   refine xU (fun q us h2 _=>?_) rr
   refine cA (fun t=>?_) h2
   exact fun m=>⟨Value.int i t::fs,congrArg (· + 1) hq.1,KatTups.cons (G _ m).1 rfl rfl rfl hq.2.1,fun f hf'=>(List.mem_cons.mp hf').elim (fun e=>⟨i,t,e⟩) (hq.2.2 f)⟩) r
theorem CN {A:Around} {E:Value->Shared->Prop} {s:Shared} {g:Gh} {a:Addr} {vs:List Value} {ds es:List Dat} {k:Nat} {R:PySem.Fin->Shared->Prop} (hu:A.units+8<cLine) (ho:s.heap.get? a=some (seqObj "list" vs.toArray k)) (r:DatAll g vs ds) (h64:vs.length<64) (hf:ds.all m6=true)
  (ht:eO ds=some es) (hg:∀h',(∀b o,s.heap.get? b=some o->b≠a->h'.get? b=some o)->pE W g h') (h:∀out,DatAll g out es->R (.done (.ret .none)) { s with heap:=sortedHeap s.heap a vs out.toArray }) :
  wpAny (model W.prog W.w) A (Builtin.«list.sort» ⟨[.ref a],[]⟩) R E s:=by
 revert W A E s g a vs ds es k R;refine no_implicit_lambda%(hK10 ?_);generalize (HK10 _).1=W,(HK10 _).2.1=A,(HK10 _).2.2.1=E,(HK10 _).2.2.2.1=s,(HK10 _).2.2.2.2.1=g,(HK10 _).2.2.2.2.2.1=a,(HK10 _).2.2.2.2.2.2.1=vs,(HK10 _).2.2.2.2.2.2.2.1=ds,(HK10 _).2.2.2.2.2.2.2.2.1=es,(HK10 _).2.2.2.2.2.2.2.2.2=k;refine no_implicit_lambda%(hK ?_);generalize HK _=R;intro hu ho r h64 hf ht hg h
 rw [list_sort_plain]
 have ha:a<s.heap.objs.size:=Heap.lt_size ho
 have hz:vs.toArray.size=ds.length:=by rw [List.size_toArray,r.length]
 refine wpAny_bind (listItems_at ho rfl ?_)
 refine wpAny_bind (listUpdate_at ho rfl ?_ (by rw [List.size_toArray,sizeLine_eq]; lia) (Nat.zero_le _))
 obtain ⟨e1,ho1⟩:∃e1,(s.heap.update a (Obj.mapSeq fun _ => #[])).get? a=some (seqObj "list" #[] e1):=⟨_,get?_update_seq ho (fun _ => #[])⟩
 refine wpAny_bind (seqEpoch_at ho1 rfl ?_)
 refine wpAny_bind (wpAny_newTuple ?_ (by show vs.length<=_; rw [sizeLine_eq]; lia))
 refine wpAny_bind (wpAny_newList ?_ (Nat.zero_le _))
 refine wpAny_holding ?_
 have ho6:(((s.heap.update a (Obj.mapSeq fun _ => #[])).push (seqObj "tuple" vs.toArray 0)).push (seqObj "list" #[] 0)).get? a=some (seqObj "list" #[] e1):=by
  rw [Heap.get?_push_ne _ _ _ (by rw [size_push',Heap.size_update]; exact Nat.ne_of_lt (Nat.lt_succ_of_lt ha)),Heap.get?_push_ne _ _ _ (by rw [Heap.size_update]; exact Nat.ne_of_lt ha)]
  exact ho1
 have G6:pE W g (((s.heap.update a (Obj.mapSeq fun _ => #[])).push (seqObj "tuple" vs.toArray 0)).push (seqObj "list" #[] 0)):=hg _ fun b o e hb =>
  Heap.get?_push_of_some _ (Heap.get?_push_of_some _ (by rw [Heap.get?_update_ne _ _ _ _ hb]; exact e))
 show wpAny (model W.prog W.w) A _ R E { s with heap:=((s.heap.update a (Obj.mapSeq fun _ => #[])).push (seqObj "tuple" vs.toArray 0)).push (seqObj "list" #[] 0) }
 dsimp only
 by_cases h2:vs.toArray.size<2
 ·rw [if_pos h2,if_pos h2]
  have he:es=ds:=by
   rw [eO,if_pos (by rw [←hz]; exact h2)] at ht
   exact (Option.some.inj ht).symm
  refine wpAny_bind (wpAny_pure ?_)
  rw [StateT.run_pure]
  refine wpAny_bind (wpAny_pure ?_)
  dsimp only
  refine wpAny_bind (seqEpoch_at ho6 rfl ?_)
  have hout:(arrOf (SortSt.mk' general' (vs.toArray.zip vs.toArray) #[] 7 none)).map (·.2)=vs.toArray:=by
   show (vs.toArray.zip vs.toArray).map (·.2)=vs.toArray
   apply Array.toList_inj.mp
   simp only [Array.toList_map,Array.toList_zip]
   exact List.map_snd_zip (Nat.le_refl _)
  rw [hout]
  refine wpAny_bind (listUpdate_at ho6 rfl ?_ (Nat.zero_le _) (by rw [List.size_toArray,sizeLine_eq]; lia))
  (with_reducible refine wpAny_ite_false ?_ ?_; focus (first|rfl|decide|(simp; done)))
  exact wpAny_pure (h vs (he▸r))
 ·rw [if_neg h2,if_neg h2]
  have hl2:2<=vs.length:=by rw [List.size_toArray] at h2; lia
  rw [eO,if_neg (by rw [←hz]; exact h2)] at ht
  obtain ⟨p,hp,ht⟩:=Option.bind_eq_some_iff.mp ht
  obtain ⟨fs,hq⟩:=HH G6 r hf; have hfl:=hq.1; have kt:=hq.2.1; have hfs:=hq.2.2
  refine wpAny_bind (kat_kind (T:=.type "int") kt (by rw [hfl,←r.length]; lia) (fun v hv=>?_) (by decide) ?_)
  ·obtain ⟨i,t,rfl⟩:=hfs v hv
   exact Looks.of_pure rfl
  show wpAny (model W.prog W.w) A _ _ E _
  refine wpAny_bind (wpAny_mono (kat_run (vs:=vs) (ks:=vs) (κ:=tuples' true) (G:=fun p' s'=>p'=p/\s'={ s with heap:=((s.heap.update a (Obj.mapSeq fun _ => #[])).push (seqObj "tuple" vs.toArray 0)).push (seqObj "list" #[] 0) })
   (Q:=fun st' s'=>s'={ s with heap:=((s.heap.update a (Obj.mapSeq fun _ => #[])).push (seqObj "tuple" vs.toArray 0)).push (seqObj "list" #[] 0) }/\arrOf st'=p.map (kas_item (vs.toArray.zip vs.toArray))/\failedOf st'=none/\p.size=vs.length)
   rfl hl2 h64 (fun p' st' s' a1 a2 a3 a4=>by obtain ⟨rfl,rfl⟩:=a4; exact ⟨rfl,a2,a3,a1⟩) ?_) ?_ fun _ _ e=>e)
  ·rw [r.length]
   refine JT (lt:=wO ds) (fun i j b K hl hK=>?_) _ _ hp ⟨rfl,rfl⟩
   exact MR hu G6 r hl hK
  ·rintro ⟨⟨⟩,st'⟩ s' ⟨rfl,har,hfl',hps⟩
   rw [kat_snds rfl har]
   refine wpAny_bind (seqEpoch_at ho6 rfl ?_)
   refine wpAny_bind (listUpdate_at ho6 rfl ?_ (Nat.zero_le _) (by simp only [List.size_toArray,List.length_map,Array.length_toList,hps,sizeLine_eq]; lia))
   rw [hfl']
   simp only [bne_self_eq_false,Bool.false_eq_true,if_false]
   exact wpAny_pure (h _ (GY r p.toList es ht))
theorem nI {ds es:List Dat} (h64:ds.length<64) (hf:ds.all m6=true) (ht:eO ds=some es):H0 W (n+1) (fun vs=>call (.builtin "sorted") vs) [.list ds] (.list es):=fun A s g E vs R B hv=>by
 revert h64 hf ht R B hv;revert W n ds es A s g E vs;refine no_implicit_lambda%(hK9 ?_);generalize (HK9 _).1=W,(HK9 _).2.1=n,(HK9 _).2.2.1=ds,(HK9 _).2.2.2.1=es,(HK9 _).2.2.2.2.1=A,(HK9 _).2.2.2.2.2.1=s,(HK9 _).2.2.2.2.2.2.1=g,(HK9 _).2.2.2.2.2.2.2.1=E,(HK9 _).2.2.2.2.2.2.2.2=vs;intro h64 hf ht R B hv
 have hu:=R.cl
 refine qK (fun v h1=>?_) hv
 refine cR (fun l us k m r=>?_) h1
 ··have hl64:us.length<64:=by rw [r.length]; exact h64
   refine Calls.call_function_entry kind_sorted plain_sorted entry_sorted (args_sorted1 _) ?_
   delta Builtin.«sorted»; dsimp only
   refine wpAny_bind (m:=checkCount "sorted" 1 1 _) (wpAny_pure ?_)
   refine wpAny_bind (collect_list (cK B m) ?_ (by rw [sizeLine_eq]; lia))
   refine wpAny_bind (wpAny_newList ?_ (by rw [sizeLine_eq]; lia))
   have hsz:((s.heap.push (seqObj "list" #[] 0)).update s.heap.objs.size (Obj.mapSeq (· ++ us.toArray))).objs.size=s.heap.objs.size+1:=by
    rw [Heap.size_update,size_push']
   have hoL:(((s.heap.push (seqObj "list" #[] 0)).update s.heap.objs.size (Obj.mapSeq (· ++ us.toArray))).push (seqObj "list" us.toArray 0)).get? (s.heap.objs.size+1)=some (seqObj "list" us.toArray 0):=by
    rw [←hsz]; exact Heap.get?_push_size _ rfl
   have keep:∀b o,s.heap.get? b=some o->(((s.heap.push (seqObj "list" #[] 0)).update s.heap.objs.size (Obj.mapSeq (· ++ us.toArray))).push (seqObj "list" us.toArray 0)).get? b=some o:=fun b o q=>by
    have hlt:b<s.heap.objs.size:=Heap.lt_size q
    rw [Heap.get?_push_ne _ _ _ (by rw [hsz]; exact Nat.ne_of_lt (Nat.lt_succ_of_lt hlt)),Heap.get?_update_ne _ _ _ _ (Nat.ne_of_lt hlt),Heap.get?_push_ne _ _ _ (Nat.ne_of_lt hlt)]
    exact q
   show wpAny _ _ _ _ _ { s with heap:=((s.heap.push (seqObj "list" #[] 0)).update s.heap.objs.size (Obj.mapSeq (· ++ us.toArray))).push (seqObj "list" us.toArray 0) }
   rw [hsz]
   refine wpAny_bind (wpAny_holding (wpAny_call_entry slot_list_sort ⟨_,hoL,rfl⟩ entry_list_sort (CN (W:=W) (g:=g) ?_ hoL r hl64 hf ht (fun h' hk p hp=>⟨hk _ _ (keep _ _ (B.gok p hp).1) (Nat.ne_of_lt (Nat.lt_succ_of_lt (Heap.lt_size (B.gok p hp).1))),(B.gok p hp).2⟩) fun out ho=>⟨_,rfl,?_⟩) (args_list_sort _)))
   ·show A.units+1+1+8<cLine
    lia
   ·refine wpAny_pure ⟨_,rfl,?_⟩
    obtain ⟨e,he⟩:=sortedAll_at s.heap us out.toArray
    refine ⟨(s.heap.objs.size+1,seqObj "list" out.toArray e)::g,?_,.list List.mem_cons_self (ho.mono fun p hp=>List.mem_cons_of_mem _ hp)⟩
    exact Ext.of_new (tk:=s.toks) [(s.heap.objs.size+1,seqObj "list" out.toArray e)] B (fun b o q=>sortedAll_old q) fun p hp=>by
     rw [List.mem_singleton.mp hp]
     exact ⟨he,by
      cases q:s.heap.get? (s.heap.objs.size+1) with
      | none=>rfl
      | some o=>exact absurd (Heap.lt_size q) (Nat.not_lt.mpr (Nat.le_succ _))⟩
end
section
variable {W:Wd} {C:Cx} {n:Nat} {ρ ρ':aW} {P:Fl->aW->Prop}
theorem NG {S:Type} {f:Nat->S->Sem (ForInStep S)} {s0 s1:S} {n:Nat} (hn:1<=n) (h0:∀k,f k s0=pure (.yield s1)) (h1:∀k,f k s1=pure (.done s1)):forIn [:n] s0 f=pure s1:=by
 rw [Std.Legacy.Range.forIn_eq_forIn_range']
 have hs:([:n]:Std.Legacy.Range).size=n:=by simp [Std.Legacy.Range.size]
 rw [hs]
 show forIn (List.range' 0 n 1) s0 f=pure s1
 obtain ⟨m,rfl⟩:∃m,n=m+1:=⟨n-1,by lia⟩
 rw [show List.range' 0 (m+1) 1=0::List.range' 1 m from rfl,List.forIn_cons,h0]
 show (forIn (List.range' 1 m) s1 f:Sem S)=pure s1
 cases m with
 | zero=>rfl
 | succ m =>
  rw [show List.range' 1 (m+1) 1=1::List.range' 2 m from rfl,List.forIn_cons,h1]
  rfl
theorem NI {S:Type} {f:Nat->S->Sem (ForInStep S)} {s0:S} {n:Nat} (hn:n=0):forIn [:n] s0 f=pure s0:=by
 subst hn
 rw [Std.Legacy.Range.forIn_eq_forIn_range']
 rfl
theorem rO:∀(l:List Nat) (acc:Array UInt8),(∀c∈l,c<128)->l.foldl (fun acc y=>acc++(Builtin._codecs.utf8Codec.bytesOf y).toArray) acc=acc++(l.map fun c=>c.toUInt8).toArray
 | [],acc,_=>rfl
 | c::l,acc,h=>by
  have hc:=h c List.mem_cons_self
  rw [List.foldl_cons,rO l _ fun c hc=>h c (List.mem_cons_of_mem _ hc)]
  have:Builtin._codecs.utf8Codec.bytesOf c=[c.toUInt8]:=by
   show Str.utf8Of c=_
   unfold Str.utf8Of
   rw [if_pos hc]
  rw [this]
  simp
open Builtin._codecs in
theorem u5 (x:Str) (self:Value) (hx:x.cps.all (· < 128)=true) (hz:x.length<=1000):encodeNarrow "str.encode" utf8Codec none self x=pure (x.cps.map fun c=>c.toUInt8):=by
 revert x self;refine no_implicit_lambda%(hK2 ?_);generalize (HK2 _).1=x,(HK2 _).2=self;intro hx hz
 delta encodeNarrow
 obtain ⟨a⟩:=x
 revert a;refine no_implicit_lambda%(hK ?_);generalize HK _=a;intro hx hz
 have hlt:∀c∈a,c<128:=fun c hc=>by
  have h:=(Array.all_eq_true_iff_forall_mem.mp hx) c hc
  simpa using h
 have hb:∀c∈a,utf8Codec.bad c=false:=fun c hc=>by
  have h:=hlt c hc
  show Str.isSurrogate c=false
  unfold Str.isSurrogate
  simp; lia
 have hf:a.findIdx? utf8Codec.bad=none:=by
  rw [Array.findIdx?_eq_none_iff]
  exact hb
 have hbytes:a.foldl (fun acc y=>acc++(utf8Codec.bytesOf y).toArray) #[]=a.map fun c=>c.toUInt8:=by
  rw [←Array.foldl_toList,rO _ _ fun c hc=>hlt c (by simpa using hc)]
  exact Array.toList_inj.mp (by simp)
 have hsz:(a.map fun c=>c.toUInt8).size<=sizeLine:=by
  rw [Array.size_map,sizeLine_eq]
  have:a.size<=1000:=hz
  lia
 by_cases h0:a.size=0
 ·have:a = #[]:=Array.eq_empty_of_size_eq_zero h0
  subst this
  exact (congrArg (· >>= _) (NI (n:=Str.length ⟨#[]⟩) rfl)).trans (show (pure (#[]:Array UInt8):Sem (Array UInt8))=pure ((#[]:Array Nat).map fun c=>c.toUInt8) from congrArg pure (by simp))
 ·have hp:0<a.size:=Nat.pos_of_ne_zero h0
  have e1:¬(#[]:Array UInt8).size>sizeLine:=Nat.not_lt_zero _
  have e2:a[0]? = some a[0]:=Array.getElem?_eq_getElem hp
  have e3:(!utf8Codec.bad a[0])=true:=congrArg not (hb _ (Array.getElem_mem _))
  have e4:a.extract 0 a.size=a:=by simp
  have e5:a[a.size]? = none:=Array.getElem?_eq_none (Nat.le_refl _)
  have e6:((a.extract 0 a.size).findIdx? utf8Codec.bad).getD (a.extract 0 a.size).size=a.size:=by rw [e4,hf]; rfl
  refine (congrArg (· >>= _) (NG (n:=Str.length ⟨a⟩) (s1:=(a.size,a.map fun c=>c.toUInt8,{})) hp (fun k=>?_) fun k=>?_)).trans rfl
  ·refine (if_neg e1).trans ?_
   rw [show (⟨a⟩:Str).cps[0]? = some a[0] from e2]
   refine (if_pos e3).trans ?_
   show (pure (ForInStep.yield (0+((a.extract 0 a.size).findIdx? utf8Codec.bad).getD (a.extract 0 a.size).size,((a.extract 0 a.size).extract 0 (((a.extract 0 a.size).findIdx? utf8Codec.bad).getD (a.extract 0 a.size).size)).foldl _ #[],_)):Sem _)=_
   rw [e6,e4,e4,hbytes,Nat.zero_add]
  ·refine (if_neg (Nat.not_lt.mpr hsz)).trans ?_
   rw [show (⟨a⟩:Str).cps[a.size]? = none from e5]
theorem kM {x:Str} (hx:x.cps.all (· < 128)=true) (hz:x.length<=1000):IsMeth W n (.str x) "encode" [] (.bytes (x.cps.map fun c=>c.toUInt8)):=fQ F.slot_str_encode F.type_str_encode (AG fun A s g E t B=>by
 refine wpAny_call_entry F.slot_str_encode (typeIs_str _ _ _) F.entry_str_encode ?_ (F.args_str_encode_1 _)
 simp only [encode_tree,encodeRoad_utf8,u5 x _ hx hz]
 refine wpAny_bind (wpAny_bind (wpAny_pure (wpAny_mkBytes (wpAny_pure ⟨_,rfl,bD B (.bytes _ _)⟩) ?_)))
 rw [Array.size_map,sizeLine_eq]
 have:x.cps.size<=1000:=hz
 lia)
theorem xN {ds:List Dat} (hz:ds.length<=16777216):H0 W n (fun vs=>call (.type "tuple") vs) [.list ds] (.tuple ds):=fun A s g E vs R B hv=>by
 refine qK (fun v h1=>?_) hv
 refine cR (fun l us k m r=>?_) h1
 refine call_tuple_list (cK B m) (fun h' hk=>?_) (by simp only [List.size_toArray,r.length,sizeLine_eq]; exact hz)
 have x₁:Ext W s g { s with heap:=h' } g:=Ext.of_keeps (tk:=s.toks) B.gok hk
 exact ⟨_,x₁.trans (Ext.push (o:={ cls:=.type "tuple",data:=.seq us.toArray }) (B.step x₁) rfl),.tuple List.mem_cons_self (r.mono fun p hp=>List.mem_cons_of_mem _ hp)⟩
theorem H6 {g:Gh} {ss:List Str}:∀ {vs:List Value},DatAll g vs (ss.map .str)->∃l:List (Str×Tok),vs=strValues l/\l.map (·.1)=ss:=by
 induction ss with
 | nil=>exact fun hv=>K6 (M:=fun vs=>∃l:List (Str×Tok),vs=strValues l/\l.map (·.1)=[]) ⟨[],rfl,rfl⟩ hv
 | cons s ss ih =>
  intro vs hv
  refine xU (fun v vs h r=>?_) hv
  obtain ⟨l,hq⟩:=ih r
  refine cE (fun t=>?_) h
  exact ⟨(s,t)::l,congrArg _ hq.1,congrArg _ hq.2⟩
theorem uN {x:Str} {ss:List Str} (hok:JoinOk x ss=true):IsMeth W n (.str x) "join" [.list (ss.map .str)] (.str (Txt.join x ss)):=fQ F.slot_str_join F.type_str_join fun A s g E vs R B hv=>by
 refine sB (fun v u h1 h2=>?_) hv
 refine cE (fun t=>?_) h1
 refine cR (fun a us n m r=>?_) h2
 obtain ⟨l,hq⟩:=H6 r; have e:=hq.2; obtain rfl:=hq.1
 exact SC.join (cK B m) e hok fun t' k=>bD B (.str _ _)
theorem x3 {ds:List Dat} {d:Dat} {j:Nat} (hk:∀y∈ds,kin 8 y d=true) (hz:ds.length<=1000) (hj:ds[j]? = some d) (hno:∀i e,i<j->ds[i]? = some e->eJ e d=false):IsMeth W (n+1) (.list ds) "index" [d] (.int j):=
 ⟨"list","list.index",F.plainAttrs_list,F.slot_list_index,F.type_list_index,fun s g v G hv=>by
  exact cR (fun b vs n m r=>⟨⟨_,(G _ m).1,rfl⟩,fun a e=>by cases e; exact ⟨_,(G _ m).1,rfl⟩⟩) hv,fun A s g E vs R B hv=>by
  have hu:=R.cl
  refine sB (fun v u h1 h2=>?_) hv
  refine cR (fun a us k m r=>?_) h1
  ···skip
     obtain ⟨hlt,hget⟩:=List.getElem?_eq_some_iff.mp hj
     have hsz:us.toArray.size=ds.length:=by rw [List.size_toArray,r.length]
     have key:∀i (hi:i<us.toArray.size),∃(hi':i<ds.length),eJ (r6 g us.toArray[i]) d=eJ ds[i] d:=fun i hi=>by
      have hi':i<ds.length:=by rw [←hsz]; exact hi
      obtain ⟨y,ey,hy⟩:=DatAll.at r (List.getElem?_eq_getElem hi')
      have:us.toArray[i]=y:=by
       have:=Array.getElem?_eq_getElem hi
       rw [this] at ey; exact Option.some.inj ey
      exact ⟨hi',by rw [this,q8 B.gok hy]⟩
     have hj':j<us.toArray.size:=by rw [hsz]; exact hlt
     refine call_meets F.slot_list_index ⟨_,(B.gok _ m).1,rfl⟩ F.entry_list_index (F.args_list_index_2 _ _) (list_indexAt a us.toArray k none #[] u (fun y=>eJ (r6 g y) d) j hj' (by have:=sizeLine_eq; lia) ?_ ?_) ⟨(B.gok _ m).1,?_,bD B (.int _ _)⟩
     ·obtain ⟨_,e⟩:=key j hj'
      rw [e,hget]; exact cM d
     ·intro i hi hij
      obtain ⟨hi',e⟩:=key i hi
      rw [e]
      exact hno i _ hij (List.getElem?_eq_getElem hi')
     ·exact mF (A:=A) (by lia) B.gok r h2 hk⟩
end
section
variable {W:Wd} {C:Cx} {n:Nat} {ρ ρ':aW} {P:Fl->aW->Prop}
noncomputable def letter (x:Nat):Str:=Txt.item "abcde" x
theorem cX {x:Nat} (hx:x<5):SubOp W n (.str "abcde") (.int x) (.str (letter x)):=uR (by
 rcases (by lia:x=0\/x=1\/x=2\/x=3\/x=4) with rfl|rfl|rfl|rfl|rfl<;>decide) (by
 rcases (by lia:x=0\/x=1\/x=2\/x=3\/x=4) with rfl|rfl|rfl|rfl|rfl<;>decide)
noncomputable def pairD (p:Nat×Nat):Dat:=.tuple [.int p.1,.int p.2]
noncomputable def aG (l:List Int):Dat:=.list (l.map .int)
theorem bW {l:List Int} {x:Nat} (hx:x<l.length) (hl:l.length<=1000):SubOp W n (aG l) (.int x) (.int (l.getD x 0)):=dB (by lia) (by lia) (by
 rw [Int.toNat_natCast,List.getElem?_map,List.getD_eq_getElem?_getD,List.getElem?_eq_getElem hx]; rfl)
theorem f8 {number:Int} {x:Nat} (h:x∈aK number):x<5:=List.mem_range.mp (List.mem_filter.mp h).1
theorem gI (number:Int):(aK number).length<=5:=by
 have:=List.length_filter_le (fun k=>(number.fdiv (2^k)).fmod 2==1) (List.range 5)
 simpa [aK] using this
theorem bC {α β:Type} (f:α->β) (l:List α):(l.filterMap fun a=>some (f a))=l.map f:=by
 induction l with
 | nil=>rfl
 | cons a l ih=>rw [List.filterMap_cons,List.map_cons,ih]
noncomputable def zX (aL bL:List Int) (y:Nat):List (Nat×Nat):=(aK (aL.getD y 0)).map fun x=>((aK (bL.getD x 0)).length,x)
theorem CM {f fM:Addr} {aL bL:List Int} {y:Nat} {srt:List (Nat×Nat)} (D:DefAt W f (aT 19) ["ahead","behind","y"]) (G:Glb W) (NM:FnName W "_law_members" fM) (DM:DefAt W fM (aT 17) ["number"])
  (ha:aL.length=5) (hb:bL.length=5) (hy:y<5) (hs:eO ((zX aL bL y).map pairD)=some (srt.map pairD)) (hl:∀p∈srt,p.2<5) (hz:srt.length<=5) :
  Fn W (n+4) f [aG aL,aG bL,.int y] (.list ((srt.map fun p=>.str (letter p.2))++[.str "local"])):=by
 refine jY (rest:=["ranked"]) D (by kernel_rfl) rfl fun C hC hf=>?_
 have ks:C.env.kindOf "sorted" = some .globalImplicit:=aE hC (by kernel_rfl)
 have km:C.env.kindOf "_law_members" = some .globalImplicit:=aE hC (by kernel_rfl)
 show cD W C (n+3) [("ahead",some (.val (aG aL))),("behind",some (.val (aG bL))),("y",some (.val (.int y))),("ranked",none)] _ _
 refine aI (ρ':=[("ahead",some (.val (aG aL))),("behind",some (.val (aG bL))),("y",some (.val (.int y))),("ranked",some (.val (.list (srt.map pairD))))])
  (aY (bT G.sorted.1 G.sorted.2 (aA (dA (d':=.list ((zX aL bL y).map pairD)) (dO (xs:=aK (aL.getD y 0)) (emb:=fun (i:Nat)=>Dat.int i) (far:=[("behind",aG bL)]) (ρ₀:=[("x",none)]) (fun x=>some (pairD ((aK (bL.getD x 0)).length,x))) (by kernel_rfl)
   (bG (bI NM (aA (a5 (aC (by exact aB 0 rfl)) (aC (by exact aB 2 rfl)) (bW (by rw [ha]; exact hy) (by lia))) aD) (gZ DM G) km)) (fun p hp=>?_) ?_ fun C' B x hx=>?_) ?_) aD) (nI ?_ ?_ hs) ks) (by exact aF 3 rfl rfl)) ?_
 ·rw [List.mem_singleton.mp hp]
  exact .own (.tail .head) (aE hC (by kernel_rfl))
 ·have:=gI (aL.getD y 0)
  rw [sizeLine_eq]; lia
 ·have hx5:=f8 hx
  have km':C'.env.kindOf "_law_members" = some .globalImplicit:=B.kind _ _ (by kernel_rfl) (by decide)
  have kl':C'.env.kindOf "len" = some .globalImplicit:=B.kind _ _ (by kernel_rfl) (by decide)
  refine gK (aV .head) (dA (bF (aA (bT G.len.1 G.len.2 (aA (bI NM (aA (a5 (bK (by rw [B.far]; exact .head)) (aC .head) (bW (by rw [hb]; exact hx5) (by lia))) aD) (gZ DM G) km') aD) (lN ?_) kl') (aA (aC .head) aD))) ?_)
  ·have:=gI (bL.getD x 0)
   rw [List.length_map]; lia
  ·rw [List.length_map]; rfl
 ·rw [bC]
  unfold zX
  rw [List.map_map]; rfl
 ·unfold zX
  have:=gI (aL.getD y 0)
  rw [List.length_map,List.length_map]; lia
 ·rw [List.all_eq_true]
  intro d hd
  obtain ⟨p,_,rfl⟩:=List.mem_map.mp hd
  rfl
 refine cN (aJ (dO (xs:=srt) (emb:=pairD) (far:=[]) (ρ₀:=[("size",none),("x",none)]) (fun p=>some (.str (letter p.2))) (by kernel_rfl) (bG (aC (by exact aB 3 rfl))) (fun p hp=>nomatch hp) (by rw [sizeLine_eq]; lia) fun C' B p hp=>?_) (cO (aA aS aD)) (pK ?_)) (.inl ?_)
 ·exact gK (fG .head (.tail .head)) (a5 aS (aC (by exact aB 1 rfl)) (cX (hl p hp)))
 ·rw [bC,List.length_map]
  show _+1<=_
  lia
 ·rw [bC]
end
section
variable {W:Wd} {C:Cx} {n:Nat} {ρ ρ':aW} {P:Fl->aW->Prop}
theorem qF (k:Nat) (ds:List Dat):g6 k ds []=true:=by cases ds<;>rfl
theorem r8 (ds:List Dat):i6 ds []=ds.isEmpty:=by cases ds<;>rfl
theorem g9 {ds:List Dat}:lJ W (n+1) (compareOp .Eq) (.list ds) (.list []) (.bool ds.isEmpty):=by
 have:=gV (W:=W) (n:=n) (d:=.list ds) (e:=.list []) (qF 7 ds)
 rw [IU,r8] at this
 exact this
theorem n8 {ds:List Dat}:lJ W (n+1) (compareOp .NotEq) (.list ds) (.list []) (.bool (!ds.isEmpty)):=by
 have:=gW (W:=W) (n:=n) (d:=.list ds) (e:=.list []) (qF 7 ds)
 rw [IU,r8] at this
 exact this
noncomputable def natsD (l:List Nat):List Dat:=l.map fun (k:Nat)=>.int k
theorem EC (l:List Nat) (z:Nat):((natsD l).any fun y=>eJ y (.int z))=l.contains z:=by
 induction l with
 | nil=>rfl
 | cons a l ih =>
  rw [natsD,List.map_cons,List.any_cons,List.contains_cons]
  rw [natsD] at ih
  rw [ih]
  congr 1
  rw [sC]
  by_cases h:a=z
  ·subst h; simp
  ·have h1:((a:Int)==z)=false:=by simpa using fun e=>h (by lia)
   have h2:(z==a)=false:=by simpa using Ne.symm h
   rw [h1,h2]
theorem FK (l:List Nat) (z:Int):∀y∈natsD l,kin 8 y (.int z)=true:=fun y hy=>by
 obtain ⟨k,_,rfl⟩:=List.mem_map.mp hy
 rfl
noncomputable def flagB:Array UInt8:=[92,40,90,93].toArray
noncomputable def lP (y:Nat):Array UInt8:=(letter y).cps.map fun c=>c.toUInt8
noncomputable def namesL (l:List Nat):List Dat:=.bytes flagB::((l.map fun y=>Dat.bytes (lP y))++[.bytes flagB])
noncomputable def cU (p:Nat×List Nat):Dat:=.tuple [.int p.1,.tuple (namesL p.2)]
noncomputable def wW (aL:List Int) (number:Int):List Nat:=(aK number).filter fun y=>Builtin.bitAnd (aL.getD y 0) number != 0
noncomputable def rK (aL bL:List Int) (number:Int):List Nat:=(List.range 5).filter fun z => !(aK number).contains z&&Builtin.bitAnd (Builtin.bitOr (aL.getD z 0) (bL.getD z 0)) number==0
noncomputable def cQ (aL:List Int):List Nat->Int->Int
 | [],f=>f
 | y::l,f=>cQ aL l (Builtin.bitOr f (aL.getD y 0))
noncomputable def eR (aL bL:List Int) (number:Nat):Option (Nat×List Nat):=
 if (wW aL number).isEmpty=true then (if (rK aL bL number).isEmpty=true then some ((aK (cQ aL (aK number) 0)).length,aK number) else none) else none
noncomputable def pS (aL bL:List Int):List (Nat×List Nat):=((List.range 31).map (· + 1)).filterMap (eR aL bL)
noncomputable def j0 (aL bL:List Int) (i:Nat):List (Nat×List Nat):=(((List.range 31).map (· + 1)).take i).filterMap (eR aL bL)
theorem kY {x:Nat} (hx:x<5):(letter x).cps.all (· < 128)=true/\(letter x).length<=1000:=by
 refine F8 (show x<5 by lia) ?_ ?_ ?_ ?_ ?_<;>decide +kernel
theorem oZ (i:Nat) (h:i<31):((List.range 31).map (· + 1)).take (i+1)=((List.range 31).map (· + 1)).take i++[i+1]:=by
 rw [List.take_add_one]
 congr 1
 rw [List.getElem?_map,List.getElem?_range h]
 rfl
noncomputable abbrev fX (aL bL:List Int) (co nu so y fr na:Option Bd):aW:=[("ahead",some (.val (aG aL))),("behind",some (.val (aG bL))),("companies",co),("number",nu),("some",so),("y",y),("front",fr),("names",na)]
theorem BV {aL bL:List Int} {fM:Addr} (hC:C.env.scope=aR (aT 20)) (G:Glb W) (NM:FnName W "_law_members" fM) (DM:DefAt W fM (aT 17) ["number"]) (ha:aL.length=5) (hb:bL.length=5) {a:Addr} {cs:List (Nat×List Nat)} {number:Nat} {so y fr na:Option Bd} (hz:cs.length<=900)
  {Q:Fl->aW->Prop} (hQ:∀so y fr na,Q .next (fX aL bL (some (.own a ((cs++(eR aL bL number).toList).map cU))) (some (.val (.int number))) so y fr na)) (body:List Stmt)
  (hbody:∃t i o p,(dW (aT 20))[1]? = some (.For t i body o p)):cD W C (n+3) (fX aL bL (some (.own a (cs.map cU))) (some (.val (.int number))) so y fr na) body Q:=by
 revert hC G NM DM ha hb hz hQ hbody;revert W C n aL bL fM a cs number so y fr na Q body;refine no_implicit_lambda%(hK10 ?_);generalize (HK10 _).1=W,(HK10 _).2.1=C,(HK10 _).2.2.1=n,(HK10 _).2.2.2.1=aL,(HK10 _).2.2.2.2.1=bL,(HK10 _).2.2.2.2.2.1=fM,(HK10 _).2.2.2.2.2.2.1=a,(HK10 _).2.2.2.2.2.2.2.1=cs,(HK10 _).2.2.2.2.2.2.2.2.1=number,(HK10 _).2.2.2.2.2.2.2.2.2=so;refine no_implicit_lambda%(hK5 ?_);generalize (HK5 _).1=y,(HK5 _).2.1=fr,(HK5 _).2.2.1=na,(HK5 _).2.2.2.1=Q,(HK5 _).2.2.2.2=body;intro hC G NM DM ha hb hz hQ hbody
 have km:C.env.kindOf "_law_members" = some .globalImplicit:=aE hC (by kernel_rfl)
 have kl:C.env.kindOf "len" = some .globalImplicit:=aE hC (by kernel_rfl)
 have kr:C.env.kindOf "range" = some .globalImplicit:=aE hC (by kernel_rfl)
 have kt:C.env.kindOf "tuple" = some .globalImplicit:=aE hC (by kernel_rfl)
 have ka:C.env.kindOf "ahead" = some .cell:=aE hC (by kernel_rfl)
 have kb:C.env.kindOf "behind" = some .cell:=aE hC (by kernel_rfl)
 have kn:C.env.kindOf "number" = some .cell:=aE hC (by kernel_rfl)
 have kso:C.env.kindOf "some" = some .cell:=aE hC (by kernel_rfl)
 obtain ⟨t,it,o,p,hbody⟩:=hbody
 have hbody:=Option.some.inj hbody
 injection hbody with _ _ hbody _ _
 rw [←hbody]
 have mlen:=gI number
 refine aI (ρ':=fX aL bL (some (.own a (cs.map cU))) (some (.val (.int number))) (some (.val (.list (natsD (aK number))))) y fr na) (aY (bI NM (aA (aC (by exact aB 3 rfl)) aD) (gZ DM G) km) (by exact aF 4 rfl rfl)) ?_
 refine aP (P':=fun fl r=>fl=.next/\∃so y fr na,r=fX aL bL (some (.own a ((cs++(eR aL bL number).toList).map cU))) (some (.val (.int number))) so y fr na) (gJ (aN (dO (xs:=aK number) (emb:=fun (i:Nat)=>Dat.int i) (far:=[("ahead",aG aL),("number",.int number)]) (ρ₀:=[("y",none)]) (fun (y:Nat)=>if (Builtin.bitAnd (aL.getD y 0) number != 0)=true then some (.int y) else none) (by kernel_rfl)
  (bG (aC (by exact aB 4 rfl))) (fun p hp=>?_) (by rw [sizeLine_eq]; lia) fun C' B x hx=>?_) (cO aD) g9) (fun h1=>?_) fun h1=>?_) (fun r hr=>?_) fun fl r hne hr=>absurd hr.1 hne
 ·rcases List.mem_cons.mp hp with rfl|hp
  ·exact .own (by exact aB 0 rfl) ka
  ·rw [List.mem_singleton.mp hp]; exact .own (by exact aB 3 rfl) kn
 ·exact eH (aV .head) (aN (aJ (a5 (bK (by rw [B.far]; exact .head)) (aC .head) (bW (by rw [ha]; exact f8 hx) (by lia))) (bK (by rw [B.far]; exact .tail .head)) yT) aH (gW rfl)) fun _=>aC .head
 ·have hin:(wW aL number).isEmpty=true:=by
   rw [a7,List.isEmpty_map] at h1
   exact h1
  refine aP (P':=fun fl r=>fl=.next/\∃so y fr na,r=fX aL bL (some (.own a ((cs++(eR aL bL number).toList).map cU))) (some (.val (.int number))) so y fr na) (gJ (aN (dO (xs:=List.range 5) (emb:=fun (i:Nat)=>Dat.int i) (far:=[("ahead",aG aL),("behind",aG bL),("number",.int number),("some",.list (natsD (aK number)))]) (ρ₀:=[("z",none)]) (fun (z:Nat)=>if (!(aK number).contains z&&Builtin.bitAnd (Builtin.bitOr (aL.getD z 0) (bL.getD z 0)) number==0)=true then some (.int z) else none) (by kernel_rfl)
   (by rw [←dS]; exact bR G.range.1 G.range.2 kr (aA aH aD) fT (cB (by decide) (by decide) (by decide) (by decide)) (rfl)) (fun p hp=>?_) (by rw [sizeLine_eq]; decide) fun C' B x hx=>?_) (cO aD) g9) (fun h2=>?_) fun h2=>?_) (fun r hr=>?_) fun fl r hne hr=>hr
  ·rcases List.mem_cons.mp hp with rfl|hp
   ·exact .own (by exact aB 0 rfl) ka
   ·rcases List.mem_cons.mp hp with rfl|hp
    ·exact .own (by exact aB 1 rfl) kb
    ·rcases List.mem_cons.mp hp with rfl|hp
     ·exact .own (by exact aB 3 rfl) kn
     ·rw [List.mem_singleton.mp hp]; exact .own (by exact aB 4 rfl) kso
  ·have hx5:x<5:=List.mem_range.mp hx
   refine eH (aV .head) (dV (cF (.and (dV (aN (aC .head) (bK (by rw [B.far]; exact .tail (.tail (.tail .head)))) (eF (FK _ _))) (by rw [EC])) fun _=>.and (aN (aJ (aJ (a5 (bK (by rw [B.far]; exact .head)) (aC .head) (bW (by rw [ha]; exact hx5) (by lia))) (a5 (bK (by rw [B.far]; exact .tail .head)) (aC .head) (bW (by rw [hb]; exact hx5) (by lia))) ET) (bK (by rw [B.far]; exact .tail (.tail .head))) yT) aH (gV rfl)) fun _=>.nil)) ?_) fun _=>aC .head
   rw [show (BoolOp.And==BoolOp.And)=true from rfl,Bool.and_true]; rfl
  ·have hout:(rK aL bL number).isEmpty=true:=by
    rw [a7,List.isEmpty_map] at h2
    exact h2
   have hco:eR aL bL number=some ((aK (cQ aL (aK number) 0)).length,aK number):=by
    rw [eR,if_pos hin,if_pos hout]
   refine aI (ρ':=fX aL bL (some (.own a (cs.map cU))) (some (.val (.int number))) (some (.val (.list (natsD (aK number))))) y (some (.val (.int 0))) na) (aY aH (by exact aF 6 rfl rfl)) ?_
   refine aP (P':=fun fl r=>fl=.next/\∃y,r=fX aL bL (some (.own a (cs.map cU))) (some (.val (.int number))) (some (.val (.list (natsD (aK number))))) y (some (.val (.int (cQ aL (aK number) 0)))) na)
    (dU (bG (aC (by exact aB 4 rfl))) (fun i r=>∃y f,r=fX aL bL (some (.own a (cs.map cU))) (some (.val (.int number))) (some (.val (.list (natsD (aK number))))) y (some (.val (.int f))) na/\cQ aL (aK number) 0=cQ aL ((aK number).drop i) f) ⟨y,0,rfl,by rw [List.drop_zero]⟩ (fun i hi r hr=>?_) fun r hr=>?_) (fun r hr=>?_) fun fl r hne hr=>absurd hr.1 hne
   ·obtain ⟨y,f,hq⟩:=hr; have hf:=hq.2; obtain rfl:=hq.1
    have hi':i<(aK number).length:=by rw [natsD,List.length_map] at hi; exact hi
    have hx5:=f8 (List.getElem_mem hi')
    have hxx:(natsD (aK number))[i]=.int ((aK number)[i]:Nat):=List.getElem_map _
    rw [hxx]
    rw [List.drop_eq_getElem_cons hi',cQ] at hf
    refine ⟨fX aL bL (some (.own a (cs.map cU))) (some (.val (.int number))) (some (.val (.list (natsD (aK number))))) (some (.val (.int ((aK number)[i]:Nat)))) (some (.val (.int f))) na,aV (by exact aF 5 rfl rfl),?_⟩
    refine aI (ρ':=fX aL bL (some (.own a (cs.map cU))) (some (.val (.int number))) (some (.val (.list (natsD (aK number))))) (some (.val (.int ((aK number)[i]:Nat)))) (some (.val (.int (Builtin.bitOr f (aL.getD (aK number)[i] 0))))) na) (aY (aJ (aC (by exact aB 6 rfl)) (a5 (aC (by exact aB 0 rfl)) (aC (by exact aB 5 rfl)) (bW (by rw [ha]; exact hx5) (by lia))) ET) (by exact aF 6 rfl rfl)) ?_
    exact aQ ⟨_,_,rfl,hf⟩
   ·obtain ⟨y,f,rfl,hf⟩:=hr
    rw [natsD,List.length_map,List.drop_length,cQ] at hf
    rw [hf]
    exact ⟨rfl,y,rfl⟩
   ·obtain ⟨_,y,rfl⟩:=hr
    refine aI (ρ':=fX aL bL (some (.own a (cs.map cU))) (some (.val (.int number))) (some (.val (.list (natsD (aK number))))) y (some (.val (.int (cQ aL (aK number) 0)))) (some (.val (.list (namesL (aK number))))))
     (aY (dA (aJ (aJ (cO (aA dX aD)) (dO (xs:=aK number) (emb:=fun (i:Nat)=>Dat.int i) (far:=[]) (ρ₀:=[("y",none)]) (fun (y:Nat)=>some (.bytes (lP y))) (by kernel_rfl) (bG (aC (by exact aB 4 rfl))) (fun p hp=>nomatch hp) (by rw [sizeLine_eq]; lia) fun C' B x hx=>?_) (pK ?_)) (cO (aA dX aD)) (pK ?_)) ?_) (by exact aF 7 rfl rfl)) ?_
    ·exact gK (aV .head) (dJ (a5 aS (aC .head) (cX (f8 hx))) (kM (kY (f8 hx)).1 (kY (f8 hx)).2))
    ·rw [bC,List.length_map]
     show 1+_<=_
     lia
    ·rw [bC,List.length_append,List.length_map]
     show 1+_+1<=_
     lia
    ·rw [bC,List.append_assoc]; rfl
    have hfl:=gI (cQ aL (aK number) 0)
    have hnl:(namesL (aK number)).length<=7:=by
     rw [namesL,List.length_cons,List.length_append,List.length_map]
     show _+1+1<=_
     lia
    refine aI (ρ':=fX aL bL (some (.own a ((cs++(eR aL bL number).toList).map cU))) (some (.val (.int number))) (some (.val (.list (natsD (aK number))))) y (some (.val (.int (cQ aL (aK number) 0)))) (some (.val (.list (namesL (aK number)))))) (lF (gC (a:=a) (ds:=cs.map cU) (d:=cU ((aK (cQ aL (aK number) 0)).length,aK number)) (by exact aB 2 rfl)
     (dA (bF (aA (bT G.len.1 G.len.2 (aA (bI NM (aA (aC (by exact aB 6 rfl)) aD) (gZ DM G) km) aD) (lN (by rw [List.length_map]; lia)) kl) (aA (E0 G.tuple.1 G.tuple.2 (aA (aC (by exact aB 7 rfl)) aD) (xN (by lia)) kt) aD))) (by rw [List.length_map]; rfl)) ?_ (by rw [List.length_map]; lia))) (aQ ⟨rfl,_,_,_,_,rfl⟩)
    rw [hco,Option.toList,List.map_append]
    repeat constructor
  ·have hout:(rK aL bL number).isEmpty=false:=by
    rw [a7,List.isEmpty_map] at h2
    exact h2
   have hco:eR aL bL number=none:=by
    rw [eR,if_pos hin,if_neg (by rw [hout]; decide)]
   rw [hco,Option.toList,List.append_nil]
   exact aQ ⟨rfl,_,_,_,_,rfl⟩
  ·obtain ⟨_,so,y,fr,na,rfl⟩:=hr
   exact aQ ⟨rfl,_,_,_,_,rfl⟩
 ·have hin:(wW aL number).isEmpty=false:=by
   rw [a7,List.isEmpty_map] at h1
   exact h1
  have hco:eR aL bL number=none:=by
   rw [eR,if_neg (by rw [hin]; decide)]
  rw [hco,Option.toList,List.append_nil]
  exact aQ ⟨rfl,_,_,_,_,rfl⟩
 ·obtain ⟨_,so,y,fr,na,rfl⟩:=hr
  exact aQ (hQ _ _ _ _)
theorem BK {f fM:Addr} {aL bL:List Int} {srt:List (Nat×List Nat)} (D:DefAt W f (aT 20) ["ahead","behind"]) (G:Glb W) (NM:FnName W "_law_members" fM) (DM:DefAt W fM (aT 17) ["number"])
  (ha:aL.length=5) (hb:bL.length=5) (hs:eO ((pS aL bL).map cU)=some (srt.map cU)) (hz:srt.length<=100) :
  Fn W (n+4) f [aG aL,aG bL] (.list (srt.map fun p=>.tuple (namesL p.2))):=by
 revert W n f fM aL bL srt;refine no_implicit_lambda%(hK7 ?_);generalize (HK7 _).1=W,(HK7 _).2.1=n,(HK7 _).2.2.1=f,(HK7 _).2.2.2.1=fM,(HK7 _).2.2.2.2.1=aL,(HK7 _).2.2.2.2.2.1=bL,(HK7 _).2.2.2.2.2.2=srt;intro D G NM DM ha hb hs hz
 have hlen:∀i,(j0 aL bL i).length<=31:=fun i=>by
  refine Nat.le_trans (List.length_filterMap_le _ _) ?_
  refine Nat.le_trans (List.length_take_le' _ _) ?_
  rw [List.length_map,List.length_range]
  exact Nat.le_refl _
 refine jY (rest:=["companies","number","some","y","front","names"]) D (by kernel_rfl) rfl fun C hC hf=>?_
 revert C;refine no_implicit_lambda%(hK ?_);generalize HK _=C;intro hC hf
 have ks:C.env.kindOf "sorted" = some .globalImplicit:=aE hC (by kernel_rfl)
 have kr:C.env.kindOf "range" = some .globalImplicit:=aE hC (by kernel_rfl)
 show cD W C (n+3) (fX aL bL none none none none none none) _ _
 refine iG (dZ aD) (hp:=fun a=>⟨fX aL bL (some (.own a ((j0 aL bL 0).map cU))) none none none none none,by exact aF 2 rfl rfl,?_⟩)
 revert a;refine no_implicit_lambda%(hK ?_);generalize HK _=a
 refine aP (P':=fun fl r=>fl=.next/\∃nu so y fr na,r=fX aL bL (some (.own a ((pS aL bL).map cU))) nu so y fr na)
  (dU (ds:=cG 1 1 31) (bR G.range.1 G.range.2 kr (aA aH (aA aH aD)) EJ (cB (by decide) (by decide) (by decide) (by decide)) (rfl)) (fun i r=>∃nu so y fr na,r=fX aL bL (some (.own a ((j0 aL bL i).map cU))) nu so y fr na) ⟨_,_,_,_,_,rfl⟩ (fun i hi r hr=>?_) fun r hr=>?_) (fun r hr=>?_) fun fl r hne hr=>absurd hr.1 hne
 ·revert i r;refine no_implicit_lambda%(hK ?_);generalize HK _=i;intro hi;refine no_implicit_lambda%(hK ?_);generalize HK _=r;intro hr
  obtain ⟨nu,so,y,fr,na,rfl⟩:=hr
  rw [bU] at hi
  rw [cZ,show (1:Int)+i*1=((i+1:Nat):Int) from by lia]
  refine ⟨fX aL bL (some (.own a ((j0 aL bL i).map cU))) (some (.val (.int ((i+1:Nat):Int)))) so y fr na,aV (by exact aF 3 rfl rfl),?_⟩
  have hn:=hlen i
  have hto:j0 aL bL (i+1)=j0 aL bL i++(eR aL bL (i+1)).toList:=by
   rw [j0,j0,oZ i hi,List.filterMap_append]
   congr 1
  refine BV hC G NM DM ha hb (by lia) (fun so y fr na=>?_) _ ⟨_,_,_,_,rfl⟩
  exact ⟨_,_,_,_,_,by rw [hto]⟩
 ·obtain ⟨nu,so,y,fr,na,rfl⟩:=hr
  refine ⟨rfl,nu,so,y,fr,na,?_⟩
  rw [bU]
  rfl
 ·obtain ⟨_,nu,so,y,fr,na,rfl⟩:=hr
  refine dK (x:="companies") (a:=a) (ρ':=fX aL bL (some (.val (.list ((pS aL bL).map cU)))) nu so y fr na) (by exact aB 2 rfl) (by exact aF 2 rfl rfl) ?_
  have hn:(pS aL bL).length<=31:=hlen 31
  refine cN (dA (dO (xs:=srt) (emb:=cU) (far:=[]) (ρ₀:=[("size",none),("company",none)]) (fun p=>some (.tuple (namesL p.2))) (by kernel_rfl) (bG (bT G.sorted.1 G.sorted.2 (aA (aC (by exact aB 2 rfl)) aD) (nI (by rw [List.length_map]; lia) ?_ hs) ks)) (fun p hp=>nomatch hp) (by rw [sizeLine_eq]; lia) fun C' B p hp=>?_) ?_) (.inl rfl)
  ·rw [List.all_eq_true]
   intro d hd
   obtain ⟨p,_,rfl⟩:=List.mem_map.mp hd
   rfl
  ·exact gK (fG .head (.tail .head)) (aC (by exact aB 1 rfl))
  ·rw [bC]
end
section
variable {W:Wd} {C:Cx} {n:Nat} {ρ ρ':aW} {P:Fl->aW->Prop}
theorem bX {t:Expr} {body:List Stmt} {pos:Pos} {b:Bool} {rest:List Stmt} (h:sH W C n ρ t b) (hb:b=false) (hn:cD W C n ρ rest P):cD W C n ρ (.If t body [] pos::rest) P:=by
 subst hb
 exact aP (P':=fun fl r=>fl=.next/\r=ρ) (gJ h (fun z=>nomatch z) fun _=>aQ ⟨rfl,rfl⟩) (fun r hr=>hr.2▸hn) fun fl r hne hr=>absurd hr.1 hne
noncomputable abbrev dots:Str:="..."
noncomputable def sl (x:Str) (a b:Option Int):Str:=Txt.slice x a b
noncomputable def it (x:Str) (i:Int):Str:=Txt.item x i
noncomputable def mQ (one:Str):Str:=sl one none (some 2)++dots++sl one (some 2) none
noncomputable def wantsOf (one:Str):List Str:=
 [one++dots++one,sl one none (some 3)++dots++sl one (some 2) none,it one 1++dots++it one 4,it one 0++dots++it one 3,sl one none (some 2),sl one (some 3) none]
noncomputable def wants2 (one:Str):List Str:=
 [it one 0++dots++sl one (some 2) (some 4)++dots++sl one (some 3) none,dots++sl one (some 1) (some 3)++dots++sl one (some 2) (some 4)++dots]
noncomputable def G5 (one:Str):Str:=dots++it one 0++dots++it one 1++dots
noncomputable def xV (x y:Nat):Str:="<..." ++ letter x++dots++letter y ++ "...>abcde"
noncomputable def rI (row:Str):Str:="<\n" ++ row ++ ">abcde"
structure OrdOk (one two:Str) (pos:Str->Nat->Nat):Prop where
 l1:one.length=5
 l2:two.length=5
 a1:em one one=true
 a2:em (mQ one) one=true
 b1:em one two=(one==two)
 b2:em (mQ one) two=(one==two)
 c:∀w∈wantsOf one++wants2 one,em w one=false
 d:em (G5 one) (one++it one 0)=true
 idx:∀r,r=one\/r=two->∀x,x<5->∃rest,Builtin.Str.occurrences r (letter x) 0 r.length 1=pos r x::rest
 e:∀r,r=one\/r=two->∀x y,x<5->y<5->em (xV x y) (rI r)=decide ((pos r x:Int)<pos r y)
noncomputable def bothOf (one two:Str) (pos:Str->Nat->Nat) (x y:Nat):Bool:=decide ((pos one x:Int)<pos one y)&&decide ((pos two x:Int)<pos two y)
noncomputable def ordIn (both:Nat->Nat->Bool) (x:Nat) (st:List Int×List Int):Nat->List Int×List Int
 | 0=>st
 | j+1=>if both x j=true then ((ordIn both x st j).1.set j ((ordIn both x st j).1.getD j 0+2^x),(ordIn both x st j).2.set x ((ordIn both x st j).2.getD x 0+2^j)) else ordIn both x st j
noncomputable def bP (both:Nat->Nat->Bool):Nat->List Int×List Int
 | 0=>([0,0,0,0,0],[0,0,0,0,0])
 | i+1=>ordIn both i (bP both i) 5
theorem z9 (both:Nat->Nat->Bool) (x:Nat) (st:List Int×List Int) (j:Nat):ordIn both x st (j+1)=if both x j=true then ((ordIn both x st j).1.set j ((ordIn both x st j).1.getD j 0+2^x),(ordIn both x st j).2.set x ((ordIn both x st j).2.getD x 0+2^j)) else ordIn both x st j:=rfl
theorem kU (both:Nat->Nat->Bool) (x:Nat) (st:List Int×List Int) (j:Nat):(ordIn both x st j).1.length=st.1.length/\(ordIn both x st j).2.length=st.2.length:=by
 induction j with
 | zero=>exact ⟨rfl,rfl⟩
 | succ j ih =>
  rw [z9]
  by_cases h:both x j=true
  ·rw [if_pos h]; exact ⟨List.length_set.trans ih.1,List.length_set.trans ih.2⟩
  ·rw [if_neg h]; exact ih
theorem lW (both:Nat->Nat->Bool) (i:Nat):(bP both i).1.length=5/\(bP both i).2.length=5:=by
 induction i with
 | zero=>exact ⟨rfl,rfl⟩
 | succ i ih=>exact ⟨(kU both i (bP both i) 5).1.trans ih.1,(kU both i (bP both i) 5).2.trans ih.2⟩
noncomputable abbrev bN (one two:Str) (want wants ahead behind x y both row:Option Bd):aW:=
 [("one",some (.val (.str one))),("two",some (.val (.str two))),("want",want),("wants",wants),("ahead",ahead),("behind",behind),("x",x),("y",y),("both",both),("row",row)]
noncomputable abbrev ownI (a:Addr) (l:List Int):Option Bd:=some (.own a (l.map .int))
noncomputable abbrev vI (i:Int):Option Bd:=some (.val (.int i))
noncomputable abbrev vS (x:Str):Option Bd:=some (.val (.str x))
noncomputable abbrev vB (b:Bool):Option Bd:=some (.val (.bool b))
theorem mB (x:Str) (a b:Option Int):(sl x a b).length<=x.length:=Txt.slice_le x a b
theorem bV (x y:Str):(x++y).length=x.length+y.length:=size_cat x y
section
variable {one two:Str} {pos:Str->Nat->Nat} {fE:Addr}
theorem GQ {x:Str} {i:Int} (h0:0<=i) (h1:i<x.length) (hx:x.length<=1000):SubOp W n (.str x) (.int i) (.str (it x i)):=uR (by
 unfold fitsSsize
 rw [Bool.not_eq_true',Bool.or_eq_false_iff]
 exact ⟨decide_eq_false (by lia),decide_eq_false (by lia)⟩) (by
 unfold Txt.charAt
 rw [seqIndex_of h0 h1]
 show (x.cps[i.toNat]?).isSome=true
 have:i.toNat<x.cps.size:=by
  have:x.length=x.cps.size:=rfl
  lia
 rw [Array.getElem?_eq_getElem this]; rfl)
theorem EK (hC:C.env.scope=aR (aT 18)) (G:Glb W) (NE:FnName W "_ellipsis_match" fE) (HE:∀w g:Str,w.length<=300->g.length<=300->Fn W (n+2) fE [.str w,.str g] (.bool (em w g))) (O:OrdOk one two pos) {x y:Nat} (hx:x<5) (hy:y<5) {want wants ahead behind row:Option Bd}
  {iter:Expr} {body:List Stmt} {p:Pos} {t:Expr} (hit:J9 W C (n+2) (bN one two want wants ahead behind (vI x) (vI y) (vB true) row) iter [.str one,.str two]) (hfold:∀env v,foldedSetIterable iter env v=pure v)
  (hb:∀ρ r,r=one\/r=two->ρ=bN one two want wants ahead behind (vI x) (vI y) (vB true) (vS r)->cD W C (n+2) ρ body fun fl r'=>fl=.next/\r'=bN one two want wants ahead behind (vI x) (vI y) (vB (decide ((pos r x:Int)<pos r y))) (vS r))
  (hb2:∀ρ r,ρ=bN one two want wants ahead behind (vI x) (vI y) (vB false) (vS r)->cD W C (n+2) ρ body fun fl r'=>fl=.next/\r'=ρ) (ht:t=.Name "row" p) {q:Pos} :
  Ex W C (n+2) (bN one two want wants ahead behind (vI x) (vI y) (vB true) row) (.For t iter body [] q) fun fl r=>fl=.next/\r=bN one two want wants ahead behind (vI x) (vI y) (vB (bothOf one two pos x y)) (vS two):=by
 subst ht
 refine dU hit (fun i r=>match i with
  | 0=>r=bN one two want wants ahead behind (vI x) (vI y) (vB true) row
  | 1=>r=bN one two want wants ahead behind (vI x) (vI y) (vB (decide ((pos one x:Int)<pos one y))) (vS one)
  | _=>r=bN one two want wants ahead behind (vI x) (vI y) (vB (bothOf one two pos x y)) (vS two)) rfl (fun i hi r hr=>?_) (fun r hr=>⟨rfl,hr⟩) hfold
 match i,hi with
 | 0,_ =>
  subst hr
  refine ⟨bN one two want wants ahead behind (vI x) (vI y) (vB true) (vS one),aV (by exact aF 9 rfl rfl),fS (hb _ one (.inl rfl) rfl) fun fl r h=>?_⟩
  obtain ⟨rfl,rfl⟩:=h
  rfl
 | 1,_ =>
  subst hr
  refine ⟨bN one two want wants ahead behind (vI x) (vI y) (vB (decide ((pos one x:Int)<pos one y))) (vS two),aV (by exact aF 9 rfl rfl),?_⟩
  cases hd:decide ((pos one x:Int)<pos one y) with
  | true =>
   refine fS (hb _ two (.inr rfl) rfl) fun fl r h=>?_
   obtain ⟨rfl,rfl⟩:=h
   show _=bN _ _ _ _ _ _ _ _ (vB (bothOf one two pos x y)) _
   rw [bothOf,hd,Bool.true_and]
  | false =>
   refine fS (hb2 _ two rfl) fun fl r h=>?_
   obtain ⟨rfl,rfl⟩:=h
   show _=bN _ _ _ _ _ _ _ _ (vB (bothOf one two pos x y)) _
   rw [bothOf,hd,Bool.false_and]
end
end
section
variable {W:Wd} {C:Cx} {n:Nat} {ρ ρ':aW} {P:Fl->aW->Prop}
section
variable {one two:Str} {pos:Str->Nat->Nat} {fE:Addr}
theorem dN (x:Nat):(letter x).length=1:=rfl
theorem sz (n:Nat) (h:n<=1000):n<=sizeLine:=by rw [sizeLine_eq]; lia
theorem MP (hC:C.env.scope=aR (aT 18)) (G:Glb W) (NE:FnName W "_ellipsis_match" fE) (HE:∀w g:Str,w.length<=300->g.length<=300->Fn W (n+2) fE [.str w,.str g] (.bool (em w g))) (O:OrdOk one two pos) {want wants:Option Bd} {a b:Addr} {x:Nat} (hx:x<5) {st:List Int×List Int} (l1:st.1.length=5) (l2:st.2.length=5)
  {yv bo row:Option Bd} :
  cD W C (n+2) (bN one two want wants (ownI a st.1) (ownI b st.2) (vI x) yv bo row) ((match (dW (aT 18))[6]? with|some (Stmt.For _ _ bd _ _)=>bd|_=>[])) fun fl r=>fl=.next/\∃yv bo row,r=bN one two want wants (ownI a (ordIn (bothOf one two pos) x st 5).1) (ownI b (ordIn (bothOf one two pos) x st 5).2) (vI x) yv bo row:=by
 revert hC G NE HE O hx l1 l2;revert W C n one two pos fE want wants a b x st yv bo row;refine no_implicit_lambda%(hK10 ?_);generalize (HK10 _).1=W,(HK10 _).2.1=C,(HK10 _).2.2.1=n,(HK10 _).2.2.2.1=one,(HK10 _).2.2.2.2.1=two,(HK10 _).2.2.2.2.2.1=pos,(HK10 _).2.2.2.2.2.2.1=fE,(HK10 _).2.2.2.2.2.2.2.1=want,(HK10 _).2.2.2.2.2.2.2.2.1=wants,(HK10 _).2.2.2.2.2.2.2.2.2=a;refine no_implicit_lambda%(hK6 ?_);generalize (HK6 _).1=b,(HK6 _).2.1=x,(HK6 _).2.2.1=st,(HK6 _).2.2.2.1=yv,(HK6 _).2.2.2.2.1=bo,(HK6 _).2.2.2.2.2=row;intro hC G NE HE O hx l1 l2
 have kr:C.env.kindOf "range" = some .globalImplicit:=aE hC (by kernel_rfl)
 have ke:C.env.kindOf "_ellipsis_match" = some .globalImplicit:=aE hC (by kernel_rfl)
 have L1:=O.l1
 have L2:=O.l2
 refine aP (P':=fun fl r=>fl=.next/\∃yv bo row,r=bN one two want wants (ownI a (ordIn (bothOf one two pos) x st 5).1) (ownI b (ordIn (bothOf one two pos) x st 5).2) (vI x) yv bo row)
  (dU (ds:=cG 0 1 5) (bR G.range.1 G.range.2 kr (aA aH aD) fT (cB (by decide) (by decide) (by decide) (by decide)) (rfl)) (fun j r=>∃yv bo row,r=bN one two want wants (ownI a (ordIn (bothOf one two pos) x st j).1) (ownI b (ordIn (bothOf one two pos) x st j).2) (vI x) yv bo row) ⟨yv,bo,row,rfl⟩ (fun y hy r hr=>?_) fun r hr=>?_) (fun r hr=>?_) fun fl r hne hr=>absurd hr.1 hne
 ·revert y r;refine no_implicit_lambda%(hK ?_);generalize HK _=y;intro hy;refine no_implicit_lambda%(hK ?_);generalize HK _=r;intro hr
  obtain ⟨yv,bo,row,rfl⟩:=hr
  rw [bU] at hy
  obtain ⟨q1,q2⟩:=kU (bothOf one two pos) x st y
  rw [cZ,show (0:Int)+y*1=(y:Int) from by lia]
  refine ⟨bN one two want wants (ownI a (ordIn (bothOf one two pos) x st y).1) (ownI b (ordIn (bothOf one two pos) x st y).2) (vI x) (vI y) bo row,aV (by exact aF 7 rfl rfl),?_⟩
  refine aI (ρ':=bN one two want wants (ownI a (ordIn (bothOf one two pos) x st y).1) (ownI b (ordIn (bothOf one two pos) x st y).2) (vI x) (vI y) (vB true) row) (aY bO (by exact aF 8 rfl rfl)) ?_
  refine aP (EK hC G NE HE O hx hy (bG (cO (aA (aC (by exact aB 0 rfl)) (aA (aC (by exact aB 1 rfl)) aD)))) (fun _ _=>rfl) (fun ρ r hr hρ=>?_) (fun ρ r hρ=>?_) rfl) (fun r hr=>?_) fun fl r hne hr=>absurd hr.1 hne
  ·subst hρ
   have hr5:r.length=5:=by rcases hr with rfl|rfl<;>assumption
   obtain ⟨rx,hrx⟩:=O.idx r hr x hx
   obtain ⟨ry,hry⟩:=O.idx r hr y hy
   refine aP (P':=fun fl r'=>fl=.next/\r'=bN one two want wants (ownI a (ordIn (bothOf one two pos) x st y).1) (ownI b (ordIn (bothOf one two pos) x st y).2) (vI x) (vI y) (vB (decide ((pos r x:Int)<pos r y))) (vS r)) (gJ (b:=true) (eM (aC (by exact aB 8 rfl)) fU) (fun _=>?_) fun h=>nomatch h) (fun r' hr'=>aQ ⟨rfl,hr'.2⟩) fun fl r hne hr=>absurd hr.1 hne
   refine aI (ρ':=bN one two want wants (ownI a (ordIn (bothOf one two pos) x st y).1) (ownI b (ordIn (bothOf one two pos) x st y).2) (vI x) (vI y) (vB (em (xV x y) (rI r))) (vS r))
    (aY (bI NE (aA (aJ (aJ (aJ (aJ aS (a5 aS (aC (by exact aB 6 rfl)) (cX hx)) (cI ?_)) aS (cI ?_)) (a5 aS (aC (by exact aB 7 rfl)) (cX hy)) (cI ?_)) aS (cI ?_))
     (aA (aJ (aJ aS (aC (by exact aB 9 rfl)) (cI ?_)) aS (cI ?_)) aD)) (HE _ _ ?_ ?_) ke) (by exact aF 8 rfl rfl)) ?_
   ·exact sz _ (by rw [dN]; decide)
   ·exact sz _ (by rw [bV,dN]; decide)
   ·exact sz _ (by rw [bV,bV,dN,dN]; decide)
   ·exact sz _ (by rw [bV,bV,bV,dN,dN]; decide)
   ·exact sz _ (by rw [hr5]; decide)
   ·exact sz _ (by rw [bV,hr5]; decide)
   ·rw [bV,bV,bV,bV,dN,dN]; decide
   ·rw [bV,bV,hr5]; decide
   rw [O.e r hr x y hx hy]
   refine bX (aN (aC (by exact aB 8 rfl)) (kN (dG (aC (by exact aB 9 rfl)) (aA (a5 aS (aC (by exact aB 6 rfl)) (cX hx)) aD) (zZ hrx)) (dG (aC (by exact aB 9 rfl)) (aA (a5 aS (aC (by exact aB 7 rfl)) (cX hy)) aD) (zZ hry)) tG) (d8 (b:=true) ?_)) rfl (aQ ⟨rfl,rfl⟩)
   show some (_==_)=some true
   rw [beq_self_eq_true]
  ·subst hρ
   exact aP (P':=fun fl r'=>fl=.next/\r'=bN one two want wants (ownI a (ordIn (bothOf one two pos) x st y).1) (ownI b (ordIn (bothOf one two pos) x st y).2) (vI x) (vI y) (vB false) (vS r)) (gJ (b:=false) (eM (aC (by exact aB 8 rfl)) fU) (fun h=>nomatch h) fun _=>aQ ⟨rfl,rfl⟩) (fun r' hr'=>aQ ⟨rfl,hr'.2⟩) fun fl r hne hr=>absurd hr.1 hne
  ·rw [hr.2]
   refine aP (P':=fun fl r=>fl=.next/\∃yv bo row,r=bN one two want wants (ownI a (ordIn (bothOf one two pos) x st (y+1)).1) (ownI b (ordIn (bothOf one two pos) x st (y+1)).2) (vI x) yv bo row) (gJ (eM (aC (by exact aB 8 rfl)) fU) (fun hb=>?_) fun hb=>?_) (fun r hr=>?_) fun fl r hne hr=>absurd hr.1 hne
   ·have e1:ordIn (bothOf one two pos) x st (y+1)=((ordIn (bothOf one two pos) x st y).1.set y ((ordIn (bothOf one two pos) x st y).1.getD y 0+2^x),(ordIn (bothOf one two pos) x st y).2.set x ((ordIn (bothOf one two pos) x st y).2.getD x 0+2^y)):=by
     show (if bothOf one two pos x y=true then _ else _)=_
     rw [if_pos hb]
    have hpow:Builtin.Int.intBits 2=2:=rfl
    rw [e1]
    generalize ordIn (bothOf one two pos) x st y=s2 at q1 q2 ⊢
    have z1:(s2.1.map Dat.int).length=5:=by rw [List.length_map,q1,l1]
    have z2:(s2.2.map Dat.int).length=5:=by rw [List.length_map,q2,l2]
    refine aI (ρ':=bN one two want wants (ownI a (s2.1.set y (s2.1.getD y 0+2^x))) (ownI b s2.2) (vI x) (vI y) (vB (bothOf one two pos x y)) (vS two)) (jI (a:=a) (ds:=s2.1.map .int) (d:=.int (s2.1.getD y 0+2^x)) (by exact aB 4 rfl) (gD (x:="ahead") (a:=a) (by exact aB 4 rfl) (by exact aF 4 rfl rfl) (aJ (a5 (aC (by exact aB 4 rfl)) (aC (by exact aB 7 rfl)) (bW (by rw [q1,l1]; exact hy) (by lia))) (aJ aH (aC (by exact aB 6 rfl)) (t9 (by lia) (by rw [hpow]; lia))) rB) trivial) (aC (by exact aB 7 rfl)) (by lia) (by lia) (by lia) ?_) ?_
    ·rw [Int.toNat_natCast,←List.map_set]; repeat constructor
    refine aI (ρ':=bN one two want wants (ownI a (s2.1.set y (s2.1.getD y 0+2^x))) (ownI b (s2.2.set x (s2.2.getD x 0+2^y))) (vI x) (vI y) (vB (bothOf one two pos x y)) (vS two)) (jI (a:=b) (ds:=s2.2.map .int) (d:=.int (s2.2.getD x 0+2^y)) (by exact aB 5 rfl) (gD (x:="behind") (a:=b) (by exact aB 5 rfl) (by exact aF 5 rfl rfl) (aJ (a5 (aC (by exact aB 5 rfl)) (aC (by exact aB 6 rfl)) (bW (by rw [q2,l2]; exact hx) (by lia))) (aJ aH (aC (by exact aB 7 rfl)) (t9 (by lia) (by rw [hpow]; lia))) rB) trivial) (aC (by exact aB 6 rfl)) (by lia) (by lia) (by lia) ?_) ?_
    ·rw [Int.toNat_natCast,←List.map_set]; repeat constructor
    exact aQ ⟨rfl,_,_,_,rfl⟩
   ·have e1:ordIn (bothOf one two pos) x st (y+1)=ordIn (bothOf one two pos) x st y:=by
     show (if bothOf one two pos x y=true then _ else _)=_
     rw [if_neg (by rw [hb]; decide)]
    rw [e1]
    exact aQ ⟨rfl,_,_,_,rfl⟩
   ·obtain ⟨_,yv,bo,row,rfl⟩:=hr
    exact aQ ⟨yv,bo,row,rfl⟩
 ·obtain ⟨yv,bo,row,rfl⟩:=hr
  exact ⟨rfl,yv,bo,row,by rw [bU]⟩
 ·exact aQ hr
end
end
section
variable {W:Wd} {C:Cx} {n:Nat} {ρ ρ':aW} {P:Fl->aW->Prop}
section
variable {one two:Str} {pos:Str->Nat->Nat} {fE:Addr}
theorem xG:dots.length=3:=by decide
theorem DJ (h:one.length=5):∀w∈wantsOf one++wants2 one,w.length<=300:=by
 revert one;refine no_implicit_lambda%(hK ?_);generalize HK _=one;intro h
 have s:∀a b,(sl one a b).length<=5:=fun a b=>h▸mB one a b
 have i:∀k,(it one k).length=1:=fun k=>rfl
 have d:=xG
 intro w hw
 simp only [wantsOf,wants2,List.mem_append,List.mem_cons,List.not_mem_nil,or_false] at hw
 have s1:=s none (some 3); have s2:=s (some 2) none; have s3:=s none (some 2); have s4:=s (some 3) none; have s5:=s (some 2) (some 4); have s6:=s (some 1) (some 3)
 rcases hw with (rfl|rfl|rfl|rfl|rfl|rfl)|(rfl|rfl)<;>(try simp only [bV,i,d,h])<;>omega
theorem zJ {f:Addr} (D:DefAt W f (aT 18) ["one","two"]) (G:Glb W) (NE:FnName W "_ellipsis_match" fE) (HE:∀w g:Str,w.length<=300->g.length<=300->Fn W (n+2) fE [.str w,.str g] (.bool (em w g))) (O:OrdOk one two pos) :
  Fn W (n+3) f [.str one,.str two] (.tuple [aG (bP (bothOf one two pos) 5).1,aG (bP (bothOf one two pos) 5).2]):=by
 revert W n one two pos fE f;refine no_implicit_lambda%(hK7 ?_);generalize (HK7 _).1=W,(HK7 _).2.1=n,(HK7 _).2.2.1=one,(HK7 _).2.2.2.1=two,(HK7 _).2.2.2.2.1=pos,(HK7 _).2.2.2.2.2.1=fE,(HK7 _).2.2.2.2.2.2=f;intro D G NE HE O
 refine jY (rest:=["want","wants","ahead","behind","x","y","both","row"]) D (by kernel_rfl) rfl fun C hC hf=>?_
 revert C;refine no_implicit_lambda%(hK ?_);generalize HK _=C;intro hC hf
 have kr:C.env.kindOf "range" = some .globalImplicit:=aE hC (by kernel_rfl)
 have ke:C.env.kindOf "_ellipsis_match" = some .globalImplicit:=aE hC (by kernel_rfl)
 have L1:=O.l1
 have L2:=O.l2
 have s:∀a b,(sl one a b).length<=5:=fun a b=>L1▸mB one a b
 have hd:=xG
 have z1:one.length<=sizeLine:=sz _ (by omega)
 have hit:∀k,(it one k).length=1:=fun k=>rfl
 have dt:dots=("...":Str):=rfl
 show cD W C (n+2) (bN one two none none none none none none none none) _ _
 refine aP (P':=fun fl r=>fl=.next/\∃w,r=bN one two w none none none none none none none)
  (dU (ds:=[.str one,.str (mQ one)]) (bG (cO (aA (aC (by repeat constructor)) (aA (aJ (aJ (i5 (aC (by repeat constructor)) cT (bZ aH) z1) aS (cI ?_)) (i5 (aC (by repeat constructor)) (bZ aH) cT z1) (cI ?_)) aD)))) (fun i r=>∃w,r=bN one two w none none none none none none none) ⟨_,rfl⟩ (fun i hi r hr=>?_) fun r hr=>⟨rfl,hr⟩) (fun r hr=>?_) fun fl r hne hr=>absurd hr.1 hne
 ·exact sz _ (by have:=s none (some 2); rw [←dt,hd]; exact Nat.le_trans (Nat.add_le_add_right this 3) (by decide))
 ·refine sz _ ?_
  rw [bV]
  have h1:=s none (some 2); have h2:=s (some 2) none
  rw [←dt,hd]
  exact Nat.le_trans (Nat.add_le_add (Nat.add_le_add_right h1 3) h2) (by decide)
 ·obtain ⟨w,rfl⟩:=hr
  have key:∀v:Str,v.length<=300->em v one=true->em v two=(one==two)->cD W C (n+2) (bN one two (vS v) none none none none none none none) ((match (dW (aT 18))[0]? with|some (Stmt.For _ _ bd _ _)=>bd|_=>[])) fun fl r=>fl=.next/\∃w,r=bN one two w none none none none none none none:=fun v hv h1 h2=>by
   refine bX (cF (.or (aN (bI NE (aA (aC (by repeat constructor)) (aA (aC (by repeat constructor)) aD)) (HE v one hv (by omega)) ke) bO (d8 (b:=true) (by rw [h1]; rfl))) fun _=>.or (aN (bI NE (aA (aC (by repeat constructor)) (aA (aC (by repeat constructor)) aD)) (HE v two hv (by omega)) ke) (kN (aC (by repeat constructor)) (aC (by repeat constructor)) (gV rfl)) (d8 (b:=true) ?_)) fun _=>.nil)) rfl (aQ ⟨rfl,_,rfl⟩)
   rw [h2]
   show some ((one==two)==(one==two))=some true
   rw [beq_self_eq_true]
  have hm:(mQ one).length<=300:=by
   have h1:=s none (some 2); have h2:=s (some 2) none
   simp only [mQ,bV,bV,hd]; omega
  match i,hi with
  | 0,_=>exact ⟨bN one two (vS one) none none none none none none none,aV (by repeat constructor),fS (key one (by omega) O.a1 O.b1) fun fl r h=>by obtain ⟨rfl,w,rfl⟩:=h; exact ⟨w,rfl⟩⟩
  | 1,_=>exact ⟨bN one two (vS (mQ one)) none none none none none none none,aV (by repeat constructor),fS (key (mQ one) hm O.a2 O.b2) fun fl r h=>by obtain ⟨rfl,w,rfl⟩:=h; exact ⟨w,rfl⟩⟩
 obtain ⟨_,w,rfl⟩:=hr
 have itm:∀(k:Int),0<=k->k<5->∀ {ρ:aW} {kk:Nat} {p q r:Pos},Has ρ "one" (.val (.str one))->Ev W C (n+2) ρ (.Subscript (.Name "one" p) (.Constant (.int k) kk q) r) (.str (it one k)):=fun k h0 h5 ρ kk p q r h=>a5 (aC h) aH (GQ h0 (by omega) (by omega))
 have slc:∀ {lo hi:Option Expr} {a b:Option Int} {ρ:aW} {p q r:Pos},Has ρ "one" (.val (.str one))->JD W C (n+2) ρ lo a->JD W C (n+2) ρ hi b->Ev W C (n+2) ρ (.Subscript (.Name "one" p) (.Slice lo hi none q) r) (.str (sl one a b)):=fun h h1 h2=>i5 (aC h) h1 h2 z1
 have cat:∀ {ρ:aW} {l r:Expr} {p:Pos} {u v:Str},Ev W C (n+2) ρ l (.str u)->Ev W C (n+2) ρ r (.str v)->u.length+v.length<=1000->Ev W C (n+2) ρ (.BinOp l .Add r p) (.str (u++v)):=fun h1 h2 h=>aJ h1 h2 (cI (sz _ h))
 have s1:=s none (some 3); have s2:=s (some 2) none; have s3:=s none (some 2); have s4:=s (some 3) none; have s5:=s (some 2) (some 4); have s6:=s (some 1) (some 3)
 have dts:∀ {ρ:aW} {k:Nat} {p:Pos},Ev W C (n+2) ρ (.Constant (.str "...") k p) (.str dots):=aS
 refine aI (ρ':=bN one two w (some (.val (.list ((wantsOf one).map .str)))) none none none none none none) (aY (cO (ds:=(wantsOf one).map .str) (aA (cat (cat (aC (by repeat constructor)) dts ?_) (aC (by repeat constructor)) ?_) (aA (cat (cat (slc (by repeat constructor) cT (bZ aH)) dts ?_) (slc (by repeat constructor) (bZ aH) cT) ?_)
  (aA (cat (cat (itm 1 (by decide) (by decide) (by repeat constructor)) dts ?_) (itm 4 (by decide) (by decide) (by repeat constructor)) ?_) (aA (cat (cat (itm 0 (by decide) (by decide) (by repeat constructor)) dts ?_) (itm 3 (by decide) (by decide) (by repeat constructor)) ?_)
  (aA (slc (by repeat constructor) cT (bZ aH)) (aA (slc (by repeat constructor) (bZ aH) cT) aD)))))) (sz _ (by rw [List.length_map]; exact Nat.le_of_ble_eq_true rfl))) (by repeat constructor)) ?_
 all_goals first|(simp only [bV,hit,hd,L1]; omega)|skip
 have wl:=DJ L1
 refine aP (P':=fun fl r=>fl=.next/\∃w,r=bN one two w (some (.val (.list ((wantsOf one).map .str)))) none none none none none none)
  (dU (ds:=(wantsOf one++wants2 one).map .str) (bG (dA (aJ (aC (by repeat constructor)) (cO (ds:=(wants2 one).map .str) (aA (cat (cat (cat (cat (itm 0 (by decide) (by decide) (by repeat constructor)) dts ?_) (slc (by repeat constructor) (bZ aH) (bZ aH)) ?_) dts ?_) (slc (by repeat constructor) (bZ aH) cT) ?_)
   (aA (cat (cat (cat (cat dts (slc (by repeat constructor) (bZ aH) (bZ aH)) ?_) dts ?_) (slc (by repeat constructor) (bZ aH) (bZ aH)) ?_) dts ?_) aD)) (sz _ (by rw [List.length_map]; exact Nat.le_of_ble_eq_true rfl))) (pK (by rw [List.length_map,List.length_map]; exact Nat.le_of_ble_eq_true rfl))) (by rw [List.map_append])))
   (fun i r=>∃w,r=bN one two w (some (.val (.list ((wantsOf one).map .str)))) none none none none none none) ⟨_,rfl⟩ (fun i hi r hr=>?_) fun r hr=>⟨rfl,hr⟩) (fun r hr=>?_) fun fl r hne hr=>absurd hr.1 hne
 all_goals first|(simp only [bV,hit,hd,L1]; omega)|skip
 ·obtain ⟨w,rfl⟩:=hr
  have hi':i<(wantsOf one++wants2 one).length:=by rw [List.length_map] at hi; exact hi
  have hmem:=List.getElem_mem hi'
  rw [List.getElem_map]
  generalize (wantsOf one++wants2 one)[i]=v at hmem ⊢
  have hc:=O.c v hmem
  refine ⟨bN one two (vS v) (some (.val (.list ((wantsOf one).map .str)))) none none none none none none,aV (by repeat constructor),?_⟩
  exact bX (aN (bI NE (aA (aC (by repeat constructor)) (aA (aC (by repeat constructor)) aD)) (HE v one (wl v hmem) (by omega)) ke) bO (d8 (b:=true) (by rw [hc]; rfl))) rfl (aQ ⟨_,rfl⟩)
 obtain ⟨_,w,rfl⟩:=hr
 revert w;refine no_implicit_lambda%(hK ?_);generalize HK _=w
 refine bX (aN (bI NE (aA (cat (cat (cat (cat dts (itm 0 (by decide) (by decide) (by repeat constructor)) ?_) dts ?_) (itm 1 (by decide) (by decide) (by repeat constructor)) ?_) dts ?_) (aA (cat (aC (by repeat constructor)) (itm 0 (by decide) (by decide) (by repeat constructor)) ?_) aD)) (HE _ _ ?_ ?_) ke) bO (d8 (b:=true) (by rw [show dots++it one 0++dots++it one 1++dots=G5 one from rfl,O.d]; rfl))) rfl ?_
 all_goals first|(simp only [bV,hit,hd,L1]; omega)|(simp only [bV,hit,hd,L1]; done)|skip
 generalize some (Bd.val (Dat.list ((wantsOf one).map .str)))=wants
 refine iG (dZ (aA aH (aA aH (aA aH (aA aH (aA aH aD)))))) (hp:=fun a=>⟨bN one two w wants (ownI a [0,0,0,0,0]) none none none none none,by repeat constructor,?_⟩)
 revert wants a;refine no_implicit_lambda%(hK2 ?_);generalize (HK2 _).1=wants,(HK2 _).2=a
 refine iG (dZ (aA aH (aA aH (aA aH (aA aH (aA aH aD)))))) (hp:=fun b=>⟨bN one two w wants (ownI a [0,0,0,0,0]) (ownI b [0,0,0,0,0]) none none none none,by repeat constructor,?_⟩)
 revert b;refine no_implicit_lambda%(hK ?_);generalize HK _=b
 refine aP (P':=fun fl r=>fl=.next/\∃x y bo row,r=bN one two w wants (ownI a (bP (bothOf one two pos) 5).1) (ownI b (bP (bothOf one two pos) 5).2) x y bo row)
  (dU (ds:=cG 0 1 5) (bR G.range.1 G.range.2 kr (aA aH aD) fT (cB (by decide) (by decide) (by decide) (by decide)) (by decide)) (fun i r=>∃x y bo row,r=bN one two w wants (ownI a (bP (bothOf one two pos) i).1) (ownI b (bP (bothOf one two pos) i).2) x y bo row) ⟨_,_,_,_,rfl⟩ (fun i hi r hr=>?_) fun r hr=>?_) (fun r hr=>?_) fun fl r hne hr=>absurd hr.1 hne
 ·revert i r;refine no_implicit_lambda%(hK ?_);generalize HK _=i;intro hi;refine no_implicit_lambda%(hK ?_);generalize HK _=r;intro hr
  obtain ⟨x,y,bo,row,rfl⟩:=hr
  rw [bU] at hi
  rw [cZ,show (0:Int)+i*1=(i:Int) from by omega]
  obtain ⟨l1,l2⟩:=lW (bothOf one two pos) i
  refine ⟨bN one two w wants (ownI a (bP (bothOf one two pos) i).1) (ownI b (bP (bothOf one two pos) i).2) (vI i) y bo row,aV (by repeat constructor),?_⟩
  refine fS (MP hC G NE HE O hi l1 l2) fun fl r h=>?_
  obtain ⟨rfl,y,bo,row,rfl⟩:=h
  exact ⟨_,_,_,_,rfl⟩
 ·obtain ⟨x,y,bo,row,rfl⟩:=hr
  exact ⟨rfl,x,y,bo,row,by rw [bU]⟩
 obtain ⟨_,x,y,bo,row,rfl⟩:=hr
 refine dK (x:="ahead") (a:=a) (ρ':=bN one two w wants (some (.val (aG (bP (bothOf one two pos) 5).1))) (ownI b (bP (bothOf one two pos) 5).2) x y bo row) (by repeat constructor) (by repeat constructor) ?_
 refine dK (x:="behind") (a:=b) (ρ':=bN one two w wants (some (.val (aG (bP (bothOf one two pos) 5).1))) (some (.val (aG (bP (bothOf one two pos) 5).2))) x y bo row) (by repeat constructor) (by repeat constructor) ?_
 exact cN (bF (aA (aC (by repeat constructor)) (aA (aC (by repeat constructor)) aD))) (.inl rfl)
end
end
end
section
open PySem PySem.W PySem.Calls PyProof.Rows PySem.SeqAt
open PySem.Sre
noncomputable def a8:Nat->M->M
 | 0,m=>m
 | n+1,m=>a8 n m.step
theorem G8 {m:M} (h:m.outcome.isSome=true):m.step=m:=by
 unfold M.step; rw [if_pos h]
theorem i4 {m:M} (h:m.outcome.isSome=true):∀n,a8 n m=m
 | 0=>rfl
 | n+1=>by rw [a8,G8 h,i4 h n]
theorem tL:∀(n:Nat) (m:M),m.runFor n=a8 n m
 | 0,_=>rfl
 | n+1,m=>by
  unfold M.runFor
  split
  ·rename_i h; rw [i4 h]
  ·rw [tL n]; rfl
theorem aX:∀(a b:Nat) (m:M),a8 (a+b) m=a8 b (a8 a m)
 | 0,b,m=>by rw [Nat.zero_add]; rfl
 | a+1,b,m=>by rw [Nat.succ_add,a8,aX a b]; rfl
theorem r7 {Md:Model} {A:Around} {E:Value->Shared->Prop} {s:Shared} {Q:M->Shared->Prop}:∀(t N:Nat) (m:M),N<=4*t->0<t->(a8 N m).outcome.isSome=true->Q (a8 N m) s->wpAny Md A (Builtin.Re.reDrive t m) Q E s:=by
 intro t
 induction t with
 | zero=>exact fun _ _ _ h=>absurd h (Nat.lt_irrefl 0)
 | succ t r7 =>
  intro N m hN _ ho hq
  unfold Builtin.Re.reDrive
  rw [tL]
  show wpAny Md A (if (a8 4 m).outcome.isSome=true then _ else _) Q E s
  by_cases h:(a8 4 m).outcome.isSome=true
  ·rw [if_pos h]
   have:a8 4 m=a8 N m:=by
    by_cases h4:N<=4
    ·rw [show (4:Nat)=N+(4-N) from (Nat.add_sub_cancel' h4).symm,aX,i4 ho]
    ·rw [show N=4+(N-4) from (Nat.add_sub_cancel' (Nat.le_of_lt (Nat.lt_of_not_le h4))).symm,aX,i4 h]
   rw [show Builtin.Re.reTurnSteps=4 from rfl,this]
   exact wpAny_pure hq
  ·rw [if_neg h]
   have h4:4<N:=by
    rcases Nat.lt_or_ge 4 N with q|q
    ·exact q
    ·exfalso
     apply h
     rw [show (4:Nat)=N+(4-N) from (Nat.add_sub_cancel' q).symm,aX,i4 ho]
     exact ho
   have e:a8 N m=a8 (N-4) (a8 4 m):=by rw [←aX]; congr 1; lia
   rw [e] at ho hq
   exact wpAny_bind (wpAny_rule (r7 (N-4) _ (Nat.sub_le_of_le_add hN) (by lia) ho hq))
theorem vY {Md:Model} {A:Around} {E:Value->Shared->Prop} {s:Shared} {Q:PUnit->Shared->Prop} (m:M) (f:Nat->PUnit->Sem (ForInStep PUnit)) (hf:∀i u,f i u=(if m.seen.has i=true then (do rule (names.getD i ""); pure (ForInStep.yield ⟨⟩)) else pure (ForInStep.yield ⟨⟩))):∀l:List Nat,Q ⟨⟩ s->wpAny Md A (forIn l ⟨⟩ f) Q E s
 | [],h=>by rw [List.forIn_nil]; exact wpAny_pure h
 | i::l,h=>by
  rw [List.forIn_cons,hf]
  refine wpAny_bind ?_
  have k:wpAny Md A (pure (ForInStep.yield PUnit.unit):Sem (ForInStep PUnit)) (fun a s'=>wpAny Md A (match a with | .done b=>pure b | .yield b=>forIn l b f) Q E s') E s:=wpAny_pure (vY m f hf l h)
  split
  ·exact wpAny_bind (wpAny_rule k)
  ·exact k
theorem D8 {Md:Model} {A:Around} {E:Value->Shared->Prop} {s:Shared} {Q:Option M->Shared->Prop} {m:M} (N:Nat) (hN:N<=1000000000) {b:Bool} (ho:(a8 N m).outcome=some (if b=true then .matched else .failed)) (hq:Q (if b=true then some (a8 N m) else none) s) :
  wpAny Md A (Builtin.Re.reRunToEnd m) Q E s:=by
 unfold Builtin.Re.reRunToEnd
 refine wpAny_bind (r7 (2^64) N m (by
  have:(2:Nat)^64=18446744073709551616:=rfl
  lia) (by decide) (by rw [ho]; rfl) ?_)
 refine wpAny_bind (vY _ _ (fun _ _=>rfl) _ ?_)
 rw [ho]
 cases b with
 | true=>exact wpAny_pure hq
 | false=>exact wpAny_pure hq
theorem cJ {m:M} (ho:m.outcome=none) (ha:m.answer=none) (hp:m.pc<m.code.size):m.step=m.exec:=by
 unfold M.step
 rw [ho,ha]
 simp only [Option.isSome_none,Bool.false_eq_true,if_false]
 rw [if_pos hp]
theorem dY {m:M} {f:Sre.Frame} {rest:List Sre.Frame} {b:Bool} (ho:m.outcome=none) (ha:m.answer=some b) (hf:m.frames=f::rest) :
  m.step=M.resume { m with answer:=none,frames:=rest,weight:=m.weight-(1+f.kept.marks.size),pc:=f.pc,pos:=f.pos,outermost:=f.outermost } f b:=by
 unfold M.step
 rw [ho,ha,hf]
 simp only [Option.isSome_none,Bool.false_eq_true,if_false]
theorem k7 {m:M} {b:Bool} (ho:m.outcome=none) (ha:m.answer=some b) (hf:m.frames=[]):m.step={ m with outcome:=some (if b then .matched else .failed) }:=by
 unfold M.step
 rw [ho,ha,hf]
 simp only [Option.isSome_none,Bool.false_eq_true,if_false]
noncomputable def mM:{ F:M->Option Op->M // ∀m,m.exec=F m (ops[m.word 0]?) }:=by
 apply Subtype.mk
 intro m
 delta M.exec
 dsimp only
 generalize ops[m.word 0]? = o
 exact rfl
noncomputable def eG:{ F:M->Sre.Frame->Bool->Wait->M // ∀m f y,M.resume m f y=F m f y f.wait }:=by
 apply Subtype.mk
 intro m f y
 delta M.resume
 dsimp only
 generalize f.wait=o
 exact rfl
theorem g3 {m:M} {o:Op} (h:ops[m.word 0]? = some o):m.exec=mM.1 m (some o):=(mM.2 m).trans (congrArg _ h)
theorem d0 {m:M} {f:Sre.Frame} {y:Bool} {o:Wait} (h:f.wait=o):m.resume f y=eG.1 m f y o:=(eG.2 m f y).trans (congrArg _ h)
theorem AU {code:Array Nat} {i c:Nat} {sn:Sre.Seen} (h:code.getD i 0=16):accepts code i c sn=.ok (c==code.getD (i+1) 0,sn):=by
 delta accepts
 dsimp only
 rw [h]
 rfl
theorem MI {code:Array Nat} {i:Nat} (h:code.getD i 0=16):itemWidth code i=2:=by
 delta itemWidth
 rw [h]
 rfl
theorem vC {m:M} {c:Nat} (ho:m.outcome=none) (ha:m.answer=none) (hp:m.pc<m.code.size) (h0:m.word 0=16) (h1:m.word 1=c) (hl:m.pos<m.lim) (ht:m.text.getD m.pos 0=c) :
  ∃sn,m.step={ m with seen:=sn,pc:=m.pc+2,pos:=m.pos+1 }:=by
 rw [cJ ho ha hp,g3 (show ops[m.word 0]? = some .LITERAL by rw [h0]; rfl)]
 refine ⟨m.seen.add (m.word 0),(if_neg (Nat.not_le.mpr hl)).trans ?_⟩
 have e:accepts m.code m.pc (m.text.getD m.pos 0) (m.seen.add (m.word 0))=.ok (true,m.seen.add (m.word 0)):=(AU h0).trans (by rw [ht,show m.code.getD (m.pc+1) 0=c from h1,beq_self_eq_true])
 rw [e,←MI (code:=m.code) (i:=m.pc) h0]
theorem y6 {m:M} {c:Nat} (ho:m.outcome=none) (ha:m.answer=none) (hp:m.pc<m.code.size) (h0:m.word 0=16) (h1:m.word 1=c) (hl:m.lim<=m.pos\/m.text.getD m.pos 0≠c) :
  ∃sn,m.step={ m with seen:=sn,answer:=some false }:=by
 revert m c;refine no_implicit_lambda%(hK2 ?_);generalize (HK2 _).1=m,(HK2 _).2=c;intro ho ha hp h0 h1 hl
 rw [cJ ho ha hp,g3 (show ops[m.word 0]? = some .LITERAL by rw [h0]; rfl)]
 by_cases h:m.lim<=m.pos
 ·exact ⟨_,if_pos h⟩
 ·refine ⟨m.seen.add (m.word 0),(if_neg h).trans ?_⟩
  have e:accepts m.code m.pc (m.text.getD m.pos 0) (m.seen.add (m.word 0))=.ok (false,m.seen.add (m.word 0)):=(AU h0).trans (by rw [show m.code.getD (m.pc+1) 0=c from h1,beq_eq_false_iff_ne.mpr (hl.resolve_left h)])
  rw [e]
  rfl
noncomputable def iR (t:Array Nat):Nat->Nat->Nat
 | _,0=>0
 | p,n+1=>if Sre.isDigit (t.getD p 0)=true then iR t (p+1) n+1 else 0
theorem rJ (t:Array Nat) (p n:Nat):iR t p (n+1)=if Sre.isDigit (t.getD p 0)=true then iR t (p+1) n+1 else 0:=rfl
theorem uG (t:Array Nat) (n:Nat):∀p,iR t p n<=n:=by
 induction n with
 | zero=>exact fun _=>Nat.le_refl _
 | succ n ih =>
  intro p
  rw [rJ]
  by_cases h:Sre.isDigit (t.getD p 0)=true
  ·rw [if_pos h]; exact Nat.succ_le_succ (ih _)
  ·rw [if_neg h]; exact Nat.zero_le _
theorem CA (c:Nat) (sn:Sre.Seen):∃sn',accepts ipv 15 c sn=Except.ok (Sre.isDigit c,sn'):=by
 have e:accepts ipv 15 c sn=(((Except.ok (Sre.isDigit c):Except String Bool).map (· != false))>>=fun y=>if y=true then pure (true,(sn.add 8).add 55) else inSet ipv c 23 19 true ((sn.add 8).add 55)):=rfl
 rw [e]
 cases Sre.isDigit c with
 | true=>exact ⟨_,rfl⟩
 | false=>exact ⟨_,rfl⟩
theorem C6 (t:Array Nat) (n:Nat):∀(p found:Nat) (sn:Sre.Seen),∃sn',Sre.run ipv t 15 n p found sn=Except.ok (found+iR t p n,sn'):=by
 induction n with
 | zero=>exact fun p found sn=>⟨sn,rfl⟩
 | succ n ih =>
  intro p found sn
  obtain ⟨sn1,e1⟩:=CA (t.getD p 0) sn
  show ∃sn',(do let (yes,seen)←accepts ipv 15 (t.getD p 0) sn; if yes=true then Sre.run ipv t 15 n (p+1) (found+1) seen else pure (found,seen))=_
  rw [e1,rJ]
  show ∃sn',(if Sre.isDigit (t.getD p 0)=true then Sre.run ipv t 15 n (p+1) (found+1) sn1 else pure (found,sn1))=_
  by_cases h:Sre.isDigit (t.getD p 0)=true
  ·rw [if_pos h,if_pos h]
   obtain ⟨sn2,e2⟩:=ih (p+1) (found+1) sn1
   exact ⟨sn2,by rw [e2,Nat.add_right_comm]; rfl⟩
  ·rw [if_neg h,if_neg h]
   exact ⟨sn1,rfl⟩
structure Bas (t:Array Nat) (m:M):Prop where
 code:m.code=ipv
 text:m.text=t
 lim:m.lim=t.size
 last:m.lastStart=t.size
 out:m.outcome=none
 whole:m.wholeText=false
 must:m.mustAdvance=false
 inner:m.inner=none
noncomputable def MW (f:Sre.Frame) (s:Nat):Prop:=f.wait=.nextStart/\f.pc=9/\f.pos=s/\f.kept.marks.size=0
structure AtS (t:Array Nat) (m:M) (s:Nat):Prop extends Bas t m where
 ans:m.answer=none
 pc:m.pc=9
 pos:m.pos=s
 frames:∃f,m.frames=[f]/\MW f s
 weight:m.weight=1
structure FailS (t:Array Nat) (m:M) (s:Nat):Prop extends Bas t m where
 ans:m.answer=some false
 frames:∃f,m.frames=[f]/\MW f s
 weight:m.weight=1
theorem kK {t:Array Nat} {m:M} {s:Nat} (B:Bas t m) (hp:m.pc=9) (hf:m.frames=[]) (hw:m.weight=0) (ha:m.answer=none) (first:Bool):AtS t (m.attemptFrom s first) s:=by
 unfold M.attemptFrom
 have:m.hasFirstSet=false:=by
  unfold M.hasFirstSet
  rw [B.code]; rfl
 rw [this]
 simp only [Bool.not_false,if_true]
 delta M.attemptAt M.attempt
 dsimp only
 rw [if_neg (by rw [hw]; decide)]
 exact ⟨⟨B.code,B.text,B.lim,B.last,B.out,B.whole,B.must,B.inner⟩,ha,hp,rfl,⟨_,by rw [hf],rfl,hp,rfl,rfl⟩,by show m.weight+1+0=1; rw [hw]⟩
theorem C8 {t:Array Nat} {m:M} {s:Nat} (F:FailS t m s) (hs:s<t.size):AtS t m.step (s+1):=by
 obtain ⟨f,hf,h1,h2,h3,h4⟩:=F.frames
 rw [dY F.out F.ans hf]
 rw [d0 h1]
 dsimp only [eG]
 simp only [Bool.false_eq_true,if_false]
 rw [if_pos (by rw [h3,F.last]; exact hs),h3]
 refine kK ?_ ?_ ?_ ?_ ?_ _
 ·exact ⟨F.code,F.text,F.lim,F.last,F.out,F.whole,rfl,F.inner⟩
 ·exact h2
 ·rfl
 ·show m.weight-(1+f.kept.marks.size)=0
  rw [F.weight,h4]
 ·rfl
theorem DH {t:Array Nat} {m:M} {s:Nat} (F:FailS t m s) (hs:s=t.size):(a8 2 m).outcome=some .failed:=by
 obtain ⟨f,hf,h1,h2,h3,h4⟩:=F.frames
 have h':m.step.outcome=none/\m.step.answer=some false/\m.step.frames=[]:=by
  rw [dY F.out F.ans hf]
  rw [d0 h1]
  dsimp only [eG]
  simp only [Bool.false_eq_true,if_false]
  rw [if_neg (by rw [h3,F.last]; lia)]
  exact ⟨F.out,rfl,rfl⟩
 show (m.step.step).outcome=_
 rw [k7 h'.1 h'.2.1 h'.2.2]
 rfl
structure GbS (t:Array Nat) (m:M) (s k:Nat):Prop extends Bas t m where
 ans:m.answer=none
 pc:m.pc=21
 pos:m.pos=s+1+k
 frames:∃g f,m.frames=[g,f]/\MW f s/\g.wait=.giveBack/\g.pc=11/\g.pos=s+1+k/\g.count=k/\g.kept.marks.size=0/\g.kept.whole=false
 weight:m.weight=2
theorem fV {t:Array Nat} {m:M} (B:Bas t m) {p:Nat} (hp:m.pc=p) (k:Nat):m.word k=ipv.getD (p+k) 0:=by
 unfold M.word; rw [B.code,hp]
theorem OB {t:Array Nat} {m:M} {s k:Nat} (G:GbS t m s k) (hnl:¬(m.pos==m.lim||(m.pos+1==m.lim&&m.text.getD m.pos 0==10))=true) (hk:1<=k) :
  ∃j,j<=2/\(if k=1 then FailS t (a8 j m) s else GbS t (a8 j m) s (k-1)):=by
 revert t m s k;refine no_implicit_lambda%(hK4 ?_);generalize (HK4 _).1=t,(HK4 _).2.1=m,(HK4 _).2.2.1=s,(HK4 _).2.2.2=k;intro G hnl hk
 obtain ⟨g,f,hf,hn,h1,h2,h3,h4,h5,h6⟩:=G.frames
 have s1:m.step={ m with seen:=(m.seen.add 6).add (43+5),answer:=some false }:=by
  rw [cJ G.out G.ans (by rw [G.pc,G.code]; decide)]
  have e0:ops[m.word 0]? = some .AT:=by rw [fV G.toBas G.pc]; rfl
  rw [g3 e0]
  dsimp only [mM]
  have w0:m.word 0=6:=by rw [fV G.toBas G.pc]; rfl
  have w1:m.code.getD (m.pc+1) 0=5:=by rw [G.code,G.pc]; rfl
  have hw:({ m with seen:=m.seen.add (m.word 0) }:M).word 1=5:=w1
  rw [hw]
  have hat:({ m with seen:=m.seen.add (m.word 0) }:M).isAt 5=.ok (m.pos==m.lim||(m.pos+1==m.lim&&m.text.getD m.pos 0==10)):=rfl
  rw [hat,Bool.not_eq_true] at *
  rw [hnl,w0]
  rfl
 refine ⟨2,Nat.le_refl _,?_⟩
 have s2:a8 2 m=M.resume { m with seen:=(m.seen.add 6).add (43+5),answer:=none,frames:=[f],weight:=m.weight-(1+g.kept.marks.size),pc:=g.pc,pos:=g.pos,outermost:=g.outermost } g false:=by
  show m.step.step=_
  rw [s1,dY (m:={ m with seen:=(m.seen.add 6).add (43+5),answer:=some false }) G.out rfl hf]
 rw [s2]
 rw [d0 h1]
 dsimp only [eG]
 simp only [Bool.false_eq_true,if_false]
 have hw2:({ m with seen:=(m.seen.add 6).add (43+5),answer:=none,frames:=[f],weight:=m.weight-(1+g.kept.marks.size),pc:=g.pc,pos:=g.pos,outermost:=g.outermost }:M).word 2=1:=by
  show m.code.getD (g.pc+2) 0=1
  rw [G.code,h2]; rfl
 rw [hw2,h4]
 have hwt:m.weight-(1+g.kept.marks.size)=1:=by rw [G.weight,h5]
 by_cases hk1:k=1
 ·rw [if_pos hk1,if_pos (by lia)]
  exact ⟨⟨G.code,G.text,G.lim,G.last,G.out,G.whole,G.must,G.inner⟩,rfl,⟨f,rfl,hn⟩,hwt⟩
 ·rw [if_neg hk1,if_neg (by lia)]
  delta M.afterRun M.attempt M.putBack
  rw [h6]
  dsimp only
  rw [if_neg (by rw [hwt,h5]; decide)]
  refine ⟨⟨G.code,G.text,G.lim,G.last,G.out,G.whole,G.must,G.inner⟩,rfl,?_,?_,⟨_,f,rfl,hn,rfl,h2,?_,?_,h5,h6⟩,?_⟩
  ·show g.pc+1+m.code.getD (g.pc+1) 0=21
   rw [G.code,h2]; rfl
  ·show g.pos-1=_
   rw [h3]; lia
  ·show g.pos-1=_
   rw [h3]; lia
  ·show (k:Int)-1=_
   lia
  ·show m.weight-(1+g.kept.marks.size)+1+g.kept.marks.size=2
   rw [hwt,h5]
theorem IK {t:Array Nat} {s:Nat} (k:Nat):∀(m:M),GbS t m s k->1<=k->(∀p,s+1<p->p<=s+1+k->¬(p==t.size||(p+1==t.size&&t.getD p 0==10))=true)->∃j,j<=2*k/\FailS t (a8 j m) s:=by
 induction k with
 | zero=>intro m G h; omega
 | succ k ih =>
  intro m G _ h
  obtain ⟨j,hj,q⟩:=OB G (by simp only [G.pos,G.lim,G.text]; exact h _ (by lia) (Nat.le_refl _)) (by omega)
  by_cases hk:k+1=1
  ·rw [if_pos hk] at q
   exact ⟨j,by lia,q⟩
  ·rw [if_neg hk,Nat.add_sub_cancel] at q
   obtain ⟨j2,hj2,q2⟩:=ih _ q (by lia) fun p h1 h2=>h p h1 (by lia)
   exact ⟨j+j2,by lia,by rw [aX]; exact q2⟩
noncomputable abbrev y9 (t:Array Nat) (s:Nat):Prop:=s<t.size/\t.getD s 0=46/\1<=iR t (s+1) (t.size-(s+1))/\s+1+iR t (s+1) (t.size-(s+1))=t.size
theorem RD (n:Nat) (h:n<=100000):min 4294967295 n=n:=Nat.min_eq_right (by lia)
theorem F4 {t:Array Nat} {m:M} {q:Nat} (hz:t.size<=100000) (B:Bas t m) (hp:m.pc=11) (hq:m.pos=q) (hql:q<=t.size) :
  ∃sn,m.exec=if iR t q (t.size-q)<1 then ({ m with seen:=sn }:M).say false
   else ({ m with seen:=sn,pos:=q+iR t q (t.size-q) }:M).afterRun .giveBack (iR t q (t.size-q)) (({ m with seen:=sn,pos:=q+iR t q (t.size-q) }:M).keep false):=by
 revert t m q;refine no_implicit_lambda%(hK3 ?_);generalize (HK3 _).1=t,(HK3 _).2.1=m,(HK3 _).2.2=q;intro hz B hp hq hql
 have cl:=uG t (t.size-q) q
 have w:∀k,m.code.getD (m.pc+k) 0=ipv.getD (11+k) 0:=fun k=>by rw [B.code,hp]
 have e0:ops[m.word 0]? = some .REPEAT_ONE:=by rw [fV B hp]; rfl
 rw [g3 e0]
 dsimp only [mM]
 have w2:∀sx:Sre.Seen,({ m with seen:=sx }:M).word 2=1:=fun sx=>(w 2).trans rfl
 have w3:∀sx:Sre.Seen,({ m with seen:=sx }:M).word 3=4294967295:=fun sx=>(w 3).trans rfl
 rw [w2,w3]
 have hl:(m.lim:Int)-(m.pos:Int)=((t.size-q:Nat):Int):=by rw [B.lim,hq]; exact (Int.ofNat_sub hql).symm
 rw [hl]
 generalize hsn:(m.seen.add (m.word 0)).add (({ m with seen:=m.seen.add (m.word 0) }:M).word 4)=sn0
 by_cases h0:t.size-q=0
 ·have hc:iR t q (t.size-q)=0:=by lia
  rw [hc,if_pos (show ((1:Nat):Int)>((t.size-q:Nat):Int) from by lia)]
  exact ⟨_,(if_pos (by decide)).symm⟩
 ·rw [if_neg (show ¬((1:Nat):Int)>((t.size-q:Nat):Int) from by lia)]
  obtain ⟨sn2,e2⟩:=C6 t (t.size-q) q 0 sn0
  have e3:Sre.run m.code m.text (m.pc+4) (min (if false=true then 1 else 4294967295) (((t.size-q:Nat):Int)).toNat) m.pos 0 sn0=Except.ok (iR t q (t.size-q),sn2):=by
   rw [if_neg (by decide),Int.toNat_natCast,RD _ (Nat.le_trans (Nat.sub_le _ _) hz),B.code,B.text,hp,hq,e2,Nat.zero_add]
  refine ⟨sn2,?_⟩
  rw [e3]
  dsimp only
  rw [hq]
  split
  ·rfl
  ·rw [B.inner]; rfl
theorem BU {t:Array Nat} {m:M} {s:Nat} (hz:t.size<=100000) (B:AtS t m s) (hs:s<t.size) (hd:t.getD s 0=46) :
  ∃j,j<=2/\(if 1<=iR t (s+1) (t.size-(s+1)) then GbS t (a8 j m) s (iR t (s+1) (t.size-(s+1))) else FailS t (a8 j m) s):=by
 revert t m s;refine no_implicit_lambda%(hK3 ?_);generalize (HK3 _).1=t,(HK3 _).2.1=m,(HK3 _).2.2=s;intro hz B hs hd
 obtain ⟨f,hq⟩:=B.frames; have hf:=hq.1; have hn:=hq.2
 obtain ⟨sn,e1⟩:=vC (c:=46) B.out B.ans (by rw [B.pc,B.code]; decide) (by rw [fV B.toBas B.pc]; rfl) (by rw [fV B.toBas B.pc]; rfl) (by rw [B.pos,B.lim]; exact hs) (by rw [B.pos,B.text]; exact hd)
 have B1:Bas t m.step:=by rw [e1]; exact ⟨B.code,B.text,B.lim,B.last,B.out,B.whole,B.must,B.inner⟩
 have p1:m.step.pc=11:=by rw [e1]; show m.pc+2=11; rw [B.pc]
 have q1:m.step.pos=s+1:=by rw [e1]; show m.pos+1=_; rw [B.pos]
 have a1:m.step.answer=none:=by rw [e1]; exact B.ans
 have f1:m.step.frames=[f]:=by rw [e1]; exact hf
 have w1:m.step.weight=1:=by rw [e1]; exact B.weight
 refine ⟨2,Nat.le_refl _,?_⟩
 show if _ then GbS t m.step.step _ _ else FailS t m.step.step _
 generalize m.step=m1 at B1 p1 q1 a1 f1 w1 ⊢
 rw [cJ B1.out a1 (by rw [p1,B1.code]; decide)]
 obtain ⟨sn2,e2⟩:=F4 hz B1 p1 q1 (by lia)
 rw [e2]
 by_cases hc:iR t (s+1) (t.size-(s+1))<1
 ·rw [if_pos hc,if_neg (by lia)]
  exact ⟨⟨B1.code,B1.text,B1.lim,B1.last,B1.out,B1.whole,B1.must,B1.inner⟩,rfl,⟨f,f1,hn⟩,w1⟩
 ·rw [if_neg hc,if_pos (by lia)]
  delta M.afterRun M.attempt M.keep
  dsimp only
  rw [if_neg (by rw [w1]; show ¬1+1+0>16777216; decide)]
  refine ⟨⟨B1.code,B1.text,B1.lim,B1.last,B1.out,B1.whole,B1.must,B1.inner⟩,a1,?_,rfl,⟨_,f,by rw [f1],hn,rfl,p1,rfl,rfl,rfl,rfl⟩,?_⟩
  ·show m1.pc+1+m1.code.getD (m1.pc+1) 0=21
   rw [B1.code,p1]; rfl
  ·show m1.weight+1+0=2
   rw [w1]
theorem A6 {t:Array Nat} {m:M} {s:Nat} (B:AtS t m s) (h:t.size<=s\/t.getD s 0≠46):FailS t m.step s:=by
 obtain ⟨f,hf,hn⟩:=B.frames
 obtain ⟨sn,e1⟩:=y6 (c:=46) B.out B.ans (by rw [B.pc,B.code]; decide) (by rw [fV B.toBas B.pc]; rfl) (by rw [fV B.toBas B.pc]; rfl) (by simp only [B.pos,B.lim,B.text]; exact h)
 rw [e1]
 exact ⟨⟨B.code,B.text,B.lim,B.last,B.out,B.whole,B.must,B.inner⟩,rfl,⟨f,hf,hn⟩,B.weight⟩
theorem JX {t:Array Nat} {m:M} {s k:Nat} (G:GbS t m s k) (he:s+1+k=t.size):(a8 5 m).outcome=some .matched:=by
 revert t m s k;refine no_implicit_lambda%(hK4 ?_);generalize (HK4 _).1=t,(HK4 _).2.1=m,(HK4 _).2.2.1=s,(HK4 _).2.2.2=k;intro G he
 obtain ⟨g,f,hf,hn,h1,h2,h3,h4,h5,h6⟩:=G.frames
 have s1:m.step={ m with seen:=(m.seen.add 6).add (43+5),pc:=23 }:=by
  rw [cJ G.out G.ans (by rw [G.pc,G.code]; decide)]
  have e0:ops[m.word 0]? = some .AT:=by rw [fV G.toBas G.pc]; rfl
  rw [g3 e0]
  dsimp only [mM]
  have w0:m.word 0=6:=by rw [fV G.toBas G.pc]; rfl
  have w1:m.code.getD (m.pc+1) 0=5:=by rw [G.code,G.pc]; rfl
  have hw:({ m with seen:=m.seen.add (m.word 0) }:M).word 1=5:=w1
  rw [hw]
  have hat:({ m with seen:=m.seen.add (m.word 0) }:M).isAt 5=.ok (m.pos==m.lim||(m.pos+1==m.lim&&m.text.getD m.pos 0==10)):=rfl
  rw [hat]
  have:(m.pos==m.lim)=true:=by simp only [G.pos,G.lim,he]; exact beq_self_eq_true _
  rw [this,w0,G.pc]
  rfl
 have s2:m.step.step.answer=some true/\m.step.step.outcome=none/\m.step.step.frames=[g,f]/\m.step.step.code=ipv:=by
  rw [s1,cJ (m:={ m with seen:=(m.seen.add 6).add (43+5),pc:=23 }) G.out G.ans (by show 23<m.code.size; rw [G.code]; decide)]
  have e0:ops[({ m with seen:=(m.seen.add 6).add (43+5),pc:=23 }:M).word 0]? = some .SUCCESS:=by
   show ops[m.code.getD 23 0]? = _
   rw [G.code]; rfl
  rw [g3 e0]
  dsimp only [mM]
  rw [G.whole,G.must]
  simp only [Bool.false_and,Bool.or_self,Bool.and_false,Bool.false_eq_true,if_false]
  exact ⟨rfl,G.out,hf,G.code⟩
 have s3:m.step.step.step.answer=some true/\m.step.step.step.outcome=none/\m.step.step.step.frames=[f]:=by
  rw [dY s2.2.1 s2.1 s2.2.2.1]
  rw [d0 h1]
  dsimp only [eG]
  exact ⟨rfl,s2.2.1,rfl⟩
 have s4:m.step.step.step.step.answer=some true/\m.step.step.step.step.outcome=none/\m.step.step.step.step.frames=[]:=by
  rw [dY s3.2.1 s3.1 s3.2.2]
  rw [d0 hn.1]
  dsimp only [eG]
  exact ⟨rfl,s3.2.1,rfl⟩
 show (m.step.step.step.step.step).outcome=_
 rw [k7 s4.2.1 s4.1 s4.2.2]
 rfl
theorem v7 {t:Array Nat} (hz:t.size<=100000) (hnl:∀p,p<t.size->t.getD p 0≠10):∀(d s:Nat) {m:M},t.size-s=d->s<=t.size->AtS t m s ->
  ∃N,N<=(d+1)*(2*t.size+20)/\∃b:Bool,(b=true↔∃p,s<=p/\y9 t p)/\(a8 N m).outcome=some (if b=true then .matched else .failed):=by
 intro d
 induction d with
 | zero =>
  intro s m hd hs B
  have hse:s=t.size:=Nat.le_antisymm hs (Nat.le_of_sub_eq_zero hd)
  have F:=A6 B (.inl (Nat.le_of_eq hse.symm))
  refine ⟨1+2,by lia,false,Iff.intro (fun h=>absurd h Bool.false_ne_true) ?_,?_⟩
  ·rintro ⟨p,hp,hg⟩
   have:=hg.1
   lia
  ·rw [aX]
   exact DH F hse
 | succ d ih =>
  intro s m hd hs B
  have hlt:s<t.size:=Nat.lt_of_sub_eq_succ hd
  have next:∀ {j:Nat},j<=2*t.size+10->FailS t (a8 j m) s->¬y9 t s->∃N,N<=(d+1+1)*(2*t.size+20)/\∃b:Bool,(b=true↔∃p,s<=p/\y9 t p)/\(a8 N m).outcome=some (if b=true then .matched else .failed):=fun {j} hj F hg=>by
   have A:=C8 F hlt
   obtain ⟨N,hN,b,hb,e⟩:=ih (s+1) (PU hd) hlt A
   refine ⟨j+(1+N),?_,b,hb.trans ?_,?_⟩
   ·rw [Nat.add_mul (d+1) 1]; lia
   ·exact ⟨fun ⟨p,a,b⟩=>⟨p,by lia,b⟩,fun ⟨p,a,b⟩=>⟨p,by
     rcases Nat.lt_or_ge s p with q|q
     ·exact q
     ·exact absurd (show y9 t s from (show p=s from by lia)▸b) hg,b⟩⟩
   ·rw [aX,aX]
    exact e
  by_cases hd46:t.getD s 0=46
  ·obtain ⟨j,hj,q⟩:=BU hz B hlt hd46
   have cl:=uG t (t.size-(s+1)) (s+1)
   by_cases hc:1<=iR t (s+1) (t.size-(s+1))
   ·rw [if_pos hc] at q
    by_cases he:s+1+iR t (s+1) (t.size-(s+1))=t.size
    ·refine ⟨j+5,?_,true,⟨fun _=>⟨s,Nat.le_refl _,hlt,hd46,hc,he⟩,fun _=>rfl⟩,?_⟩
     ·rw [Nat.add_mul (d+1) 1]; lia
     ·rw [aX,JX q he]; rfl
    ·obtain ⟨j2,hj2,F⟩:=IK _ _ q hc (fun p h1 h2=>by
      intro hb
      rw [Bool.or_eq_true,Bool.and_eq_true] at hb
      rcases hb with hb|⟨hb1,hb2⟩
      ·have:=beq_iff_eq.mp hb; lia
      ·have h3:=beq_iff_eq.mp hb1
       have h4:=beq_iff_eq.mp hb2
       exact hnl p (by lia) h4)
     exact next (j:=j+j2) (by lia) (by rw [aX]; exact F) fun hg=>he hg.2.2.2
   ·rw [if_neg hc] at q
    exact next (by lia) q fun hg=>hc hg.2.2.1
  ·exact next (j:=1) (by lia) (A6 B (.inr hd46)) fun hg=>hd46 hg.2.1
end
section
open PySem PySem.W PySem.Calls PyProof.Rows PySem.SeqAt
section
variable {W:Wd} {C:Cx} {n:Nat} {ρ ρ':aW} {P:Fl->aW->Prop}
structure PatAt (W:Wd) (p:Addr) (code:Array Nat) (groups kind:Nat) (names:Value):Prop where
 obj:∃o vs c oc items k,W.top.get? p=some o/\o.cls=.type "re.Pattern" /\ o.dict=none/\o.data=.fields vs/\vs.getD 2 .none=rawInt groups/\vs.getD 3 .none=names/\vs.getD 5 .none=.ref c/\vs.getD 6 .none=rawInt kind /\
  W.top.get? c=some oc/\oc.data=.seq items k/\(items.map Builtin.Re.reRawOf).map (·.toNat)=code/\c∉W.tb
 tb:p∉W.tb
open Builtin.Re in
theorem ME (id f:String) (v:Value):reNamed id f ["string","pos","endpos"] 1 [v] []=pure [some v,none,none]:=rfl
open Builtin.Re in
theorem s8 {A:Around} {E:Value->Shared->Prop} {s:Shared} {g:Gh} {p:Addr} {code:Array Nat} {groups kind:Nat} {names:Value} {id f:String} {v:Value} {text:Array Nat} {Q:ReTarget->Shared->Prop} (B:Base W s g) (Pt:PatAt W p code groups kind names)
  (ht:reTextOf v=pure (text,kind)) (hk:(kind=0\/kind=1)/\(kind=1->isInstance v (.type "bytes")=pure true)) (hz:text.size<=100000)
  (h:Q { pattern:=.ref p,string:=v,code,text,kind,groups,pos:=0,lim:=text.size } s):wpAny (model W.prog W.w) A (reTarget id f ⟨[.ref p,v],[]⟩) Q E s:=by
 revert W A E s g p code groups kind names id f v text Q;refine no_implicit_lambda%(hK10 ?_);generalize (HK10 _).1=W,(HK10 _).2.1=A,(HK10 _).2.2.1=E,(HK10 _).2.2.2.1=s,(HK10 _).2.2.2.2.1=g,(HK10 _).2.2.2.2.2.1=p,(HK10 _).2.2.2.2.2.2.1=code,(HK10 _).2.2.2.2.2.2.2.1=groups,(HK10 _).2.2.2.2.2.2.2.2.1=kind,(HK10 _).2.2.2.2.2.2.2.2.2=names;refine no_implicit_lambda%(hK5 ?_);generalize (HK5 _).1=id,(HK5 _).2.1=f,(HK5 _).2.2.1=v,(HK5 _).2.2.2.1=text,(HK5 _).2.2.2.2=Q;intro B Pt ht hk hz h
 obtain ⟨o,vs,c,oc,items,k,e1,e2,e3,e4,e5,e6,e7,e8,e9,e10,e12,e13⟩:=Pt.obj
 revert o vs c oc items k;refine no_implicit_lambda%(hK6 ?_);generalize (HK6 _).1=o,(HK6 _).2.1=vs,(HK6 _).2.2.1=c,(HK6 _).2.2.2.1=oc,(HK6 _).2.2.2.2.1=items,(HK6 _).2.2.2.2.2=k;intro e1 e2 e3 e4 e5 e6 e7 e8 e9 e10 e12 e13
 have l1:=B.topk _ _ e1 Pt.tb
 have l2:=B.topk _ _ e9 e13
 unfold reTarget
 show wpAny _ A (reNamed id f ["string","pos","endpos"] 1 [v] []>>=_) Q E s
 rw [ME]
 refine wpAny_bind (wpAny_pure ?_)
 refine wpAny_bind (wpAny_pure ?_)
 refine wpAny_bind (wpAny_pure (wpAny_bind (wpAny_fieldsOf l1 e4 ?_)))
 rw [ht]
 refine wpAny_bind (wpAny_pure ?_)
 dsimp only
 rw [e8]
 have hraw:reRawNat (rawInt (kind:Int))=kind:=by show ((kind:Int)).toNat=kind; lia
 rw [hraw]
 have fin:wpAny (model W.prog W.w) A (do
   let __do_lift←reRawItems (vs.getD 5 .none)
   pure ({ pattern:=.ref p,string:=v,code:=__do_lift.map (·.toNat),text,kind,groups:=reRawNat (vs.getD 2 .none),pos:=min (0:Int).toNat text.size,lim:=min (2^63-1:Int).toNat text.size }:ReTarget)) Q E s:=by
  unfold reRawItems seqItems?
  rw [e7,e5]
  refine wpAny_bind (wpAny_bind (wpAny_bind (wpAny_load l2 ?_)))
  rw [e10]
  refine wpAny_pure (wpAny_pure (wpAny_pure ?_))
  have z1:min (0:Int).toNat text.size=0:=Nat.min_eq_left (Nat.zero_le _)
  have z2:min (2^63-1:Int).toNat text.size=text.size:=Nat.min_eq_right (by
   have:(2^63-1:Int).toNat=9223372036854775807:=rfl
   lia)
  have z3:reRawNat (rawInt (groups:Int))=groups:=by show ((groups:Int)).toNat=groups; lia
  rw [z1,z2,z3]
  show Q { pattern:=.ref p,string:=v,code:=(items.map reRawOf).map (·.toNat),text,kind,groups,pos:=0,lim:=text.size } s
  rw [e12]
  exact h
 rcases hk.1 with rfl|rfl
 ·show wpAny _ A (reNoCollectionInside v 0>>=_) Q E s
  exact wpAny_bind (wpAny_pure fin)
 ·show wpAny _ A (reNoCollectionInside v 1>>=_) Q E s
  unfold reNoCollectionInside
  rw [hk.2 rfl]
  exact wpAny_bind (wpAny_pure fin)
theorem yD (x:Str) (t:Tok):Builtin.Re.reTextOf (.str x t)=pure (x.cps,0):=rfl
noncomputable def nW (x:Str):Bool:=(List.range x.length).any fun p=>decide (y9 x.cps p)
theorem kJ (x:Str):nW x=true↔∃p,0<=p/\y9 x.cps p:=by
 revert x;refine no_implicit_lambda%(hK ?_);generalize HK _=x
 unfold nW
 rw [List.any_eq_true]
 constructor
 ·rintro ⟨p,hp,hg⟩
  exact ⟨p,Nat.zero_le _,of_decide_eq_true hg⟩
 ·rintro ⟨p,_,hg⟩
  exact ⟨p,List.mem_range.mpr hg.1,decide_eq_true hg⟩
theorem DD {x:Str} (hz:x.length<=1000) (hnl:∀p,p<x.cps.size->x.cps.getD p 0≠10):∃N,N<=1000000000/\(a8 N (Sre.forSearch ipv x.cps 0 0 x.cps.size false)).outcome=some (if nW x=true then .matched else .failed):=by
 revert x;refine no_implicit_lambda%(hK ?_);generalize HK _=x;intro hz hnl
 have hz':x.cps.size<=1000:=hz
 by_cases h2:x.cps.size<2
 ·have hb:nW x=false:=by
   cases hb:nW x with
   | false=>rfl
   | true =>
    obtain ⟨p,_,hg⟩:=(kJ x).mp hb
    have cl:=uG x.cps (x.cps.size-(p+1)) (p+1)
    have:=hg.1; have:=hg.2.2.1
    lia
  refine ⟨1,by lia,?_⟩
  rw [hb]
  unfold Sre.forSearch
  have hh:Sre.header ipv=(2,9):=rfl
  rw [hh]
  dsimp only
  rw [if_pos (by simp; omega)]
  rfl
 ·obtain ⟨N,hN,b,hb,e⟩:=v7 (t:=x.cps) (by lia) hnl x.cps.size 0 (by lia) (Nat.zero_le _) (m:=Sre.forSearch ipv x.cps 0 0 x.cps.size false) (by
   unfold Sre.forSearch
   have hh:Sre.header ipv=(2,9):=rfl
   rw [hh]
   dsimp only
   rw [if_neg (by simp; lia)]
   refine kK ?_ ?_ ?_ ?_ ?_ _
   ·exact ⟨rfl,rfl,rfl,by rw [if_neg (by decide)],rfl,rfl,rfl,rfl⟩
   ·exact rfl
   ·exact rfl
   ·exact rfl
   ·exact rfl)
  have hbb:b=nW x:=by
   cases b with
   | true=>exact ((kJ x).mpr (hb.mp rfl)).symm
   | false =>
    cases hq:nW x with
    | false=>rfl
    | true=>exact absurd (hb.mpr ((kJ x).mp hq)) Bool.false_ne_true
  refine ⟨N,?_,by rw [e,hbb]⟩
  have h1:(x.cps.size+1)*(2*x.cps.size+20)<=1001*2020:=Nat.mul_le_mul (by lia) (by lia)
  lia
end
section
variable {W:Wd} {C:Cx} {n:Nat} {ρ ρ':aW} {P:Fl->aW->Prop}
theorem y8:typeLookup (.type "re.Match") "__bool__" = pure none:=by rw [typeLookup_type,builtinLookup_eq_fast]; kernel_rfl
theorem B9:typeLookup (.type "re.Match") "__len__" = pure none:=by rw [typeLookup_type,builtinLookup_eq_fast]; kernel_rfl
theorem pQ {A:Around} {E:Value->Shared->Prop} {s:Shared} {a:Addr} {Q:Bool->Shared->Prop} (hT:s.TypeIs (.ref a) "re.Match") (h:Q true s):wpAny (model W.prog W.w) A (truthy (.ref a)) Q E s:=by
 unfold truthy
 refine wpAny_bind (wpAny_callSpecial?_none (name:=Str.ofString "__bool__") hT y8 ?_)
 refine wpAny_bind (wpAny_specialOf (name:=Str.ofString "__len__") hT B9 ?_)
 exact wpAny_pure h
noncomputable def iQ (groups:Nat) (m:Sre.M):List Value:=(List.range groups).flatMap fun g =>
  match if ((2*g+1:Nat):Int)<=m.lastmark then (m.marks.getD (2*g) none,m.marks.getD (2*g+1) none) else (none,none) with
  | (some b,some e)=>[rawInt b,rawInt e]
  | _=>[rawInt (-1),rawInt (-1)]
noncomputable def uE (groups:Nat) (m:Sre.M):Bool:=(List.range groups).any (fun g=>match m.marks.getD (2*g) none,m.marks.getD (2*g+1) none with|some b,some e=>((2*g+1:Nat):Int)<=m.lastmark&&e<b|_,_=>false)
open Builtin.Re in
theorem oM {A:Around} {E:Value->Shared->Prop} {s:Shared} {pattern string:Value} {groups pos lim:Nat} {m:Sre.M} {Q:Value->Shared->Prop} (hs:uE groups m=false) (hg:groups<=10)
  (h:∀h',(∀b o,s.heap.get? b=some o->h'.get? b=some o)->h'.get? (s.heap.objs.size+1)=some { cls:=.type "re.Match",data:=.fields #[string,pattern,rawInt pos,rawInt lim,rawInt m.lastindex,.ref s.heap.objs.size] } ->
   h'.get? s.heap.objs.size=some { cls:=.type "tuple",data:=.seq (rawInt m.start::rawInt m.handed::iQ groups m).toArray }->Q (.ref (s.heap.objs.size+1)) { s with heap:=h' }) :
  wpAny (model W.prog W.w) A (reNewMatch pattern string groups pos lim m) Q E s:=by
 unfold reNewMatch
 show wpAny _ A (if uE groups m=true then _ else _) Q E s
 rw [if_neg (by rw [hs]; decide)]
 have hlen:(iQ groups m).length<=2*groups:=by
  unfold iQ
  rw [List.length_flatMap]
  have:∀l:List Nat,(l.map fun g=>(match if ((2*g+1:Nat):Int)<=m.lastmark then (m.marks.getD (2*g) none,m.marks.getD (2*g+1) none) else (none,none) with
   | (some b,some e)=>[rawInt b,rawInt e]
   | _=>[rawInt (-1),rawInt (-1)]:List Value).length).sum=2*l.length:=by
   intro l
   induction l with
   | nil=>rfl
   | cons g l ih =>
    rw [List.map_cons,List.sum_cons,ih,List.length_cons]
    have:(match if ((2*g+1:Nat):Int)<=m.lastmark then (m.marks.getD (2*g) none,m.marks.getD (2*g+1) none) else (none,none) with
     | (some b,some e)=>[rawInt b,rawInt e]
     | _=>[rawInt (-1),rawInt (-1)]:List Value).length=2:=by split<;>rfl
    omega
  rw [this,List.length_range]; exact Nat.le_refl _
 show wpAny _ A (do let t←newTuple (rawInt m.start::rawInt m.handed::iQ groups m); newFields "re.Match" [string,pattern,rawInt pos,rawInt lim,rawInt m.lastindex,t]) Q E s
 refine wpAny_bind (wpAny_newObj_type ?_ (by show (rawInt m.start::rawInt m.handed::iQ groups m).toArray.size<=sizeLine; rw [List.size_toArray,List.length_cons,List.length_cons,sizeLine_eq]; lia))
 refine wpAny_newObj_type ?_
 have hz:(s.heap.push { cls:=.type "tuple",data:=.seq (rawInt m.start::rawInt m.handed::iQ groups m).toArray }).objs.size=s.heap.objs.size+1:=Heap.size_push ..
 rw [hz]
 refine h _ (fun b o e=>Heap.get?_push_of_some _ (Heap.get?_push_of_some _ e)) ?_ (Heap.get?_push_of_some _ (Heap.get?_push_size _ rfl))
 rw [←hz]
 exact Heap.get?_push_size _ rfl
theorem JE {p:Addr} {q apos pos r:Pos} {x:Str} (hm:W.mg "IPV4_RE" = some (.ref p)) (hk:C.env.kindOf "IPV4_RE" = some .globalImplicit) (Pt:PatAt W p ipv 0 0 .none) (hx:Has ρ "text" (.val (.str x))) (hz:x.length<=1000) (hnl:∀p,p<x.cps.size->x.cps.getD p 0≠10)
  (hline:autoParam ((apos.endLine==pos.line)=true) Mine.dG._auto_1):sH W C n ρ (.Call (.Attribute (.Name "IPV4_RE" q) "search" apos) [.Name "text" r] [] pos) (nW x):=fun A s g E R S=>by
 revert hm hk Pt hx hz hnl hline R S;revert W C n ρ p q apos pos r x A s g E;refine no_implicit_lambda%(hK10 ?_);generalize (HK10 _).1=W,(HK10 _).2.1=C,(HK10 _).2.2.1=n,(HK10 _).2.2.2.1=ρ,(HK10 _).2.2.2.2.1=p,(HK10 _).2.2.2.2.2.1=q,(HK10 _).2.2.2.2.2.2.1=apos,(HK10 _).2.2.2.2.2.2.2.1=pos,(HK10 _).2.2.2.2.2.2.2.2.1=r,(HK10 _).2.2.2.2.2.2.2.2.2=x;refine no_implicit_lambda%(hK4 ?_);generalize (HK4 _).1=A,(HK4 _).2.1=s,(HK4 _).2.2.1=g,(HK4 _).2.2.2=E;intro hm hk Pt hx hz hnl hline R S
 refine wpAny_isTrue_value (wpAny_Call_method_lateS rfl rfl hline (jA S hm hk (rfl) ?_)) rfl
 obtain ⟨o,vs,c,oc,items,k,e1,e2,e3,e4,r1⟩:=id Pt.obj
 have l1:=S.base.topk _ _ e1 Pt.tb
 have hT:s.TypeIs (.ref p) "re.Pattern":=⟨o,l1,e2⟩
 refine ⟨"re.Pattern","re.Pattern.search",tO,jQ,o4,hT,fun a ha=>by cases ha; exact ⟨o,l1,e3⟩,?_⟩
 refine callWith_builtin rfl (evalArgs_plain ?_)
 have q:=(aA (e:=.Name "text" r) (aC hx) aD (W:=W) (C:=C) (n:=n)) A s g E pos R S
 refine wpAny_mono q (fun us s₁ ⟨g₁,x₁,hM⟩=>?_) fun _ _ e=>e
 have S1:=S.step x₁
 refine qK (fun v hM=>?_) hM
 refine cE (fun t=>?_) hM
 ··skip
   refine wpAny_call_entry jQ ⟨o,S1.base.topk _ _ e1 Pt.tb,e2⟩ n7 ?_ (oW _ _)
   show wpAny _ A.in1 (do let t'←Builtin.Re.reTarget "re.Pattern.search" "search" ⟨[.ref p,.str x t],[]⟩; Builtin.Re.reAnswer t' (Sre.forSearch t'.code t'.text t'.groups t'.pos t'.lim false)) _ E s₁
   refine wpAny_bind (s8 S1.base Pt (yD x t) ⟨.inl rfl,fun h=>nomatch h⟩ (by have:x.cps.size<=1000:=hz; lia) ?_)
   obtain ⟨N,hq⟩:=DD hz hnl; have hN:=hq.1; have ho:=hq.2
   unfold Builtin.Re.reAnswer
   refine wpAny_bind (D8 N hN (b:=nW x) ho ?_)
   cases hb:nW x with
   | false=>exact wpAny_pure ⟨_,rfl,truthy_none ⟨rfl,g₁,x₁⟩⟩
   | true =>
    dsimp only
    refine wpAny_bind (oM rfl (by decide) fun h' hk h1 h2=>wpAny_pure ⟨_,rfl,?_⟩)
    refine pQ ⟨_,h1,rfl⟩ ⟨rfl,g₁,x₁.trans (Ext.of_keeps (tk:=s₁.toks) S1.gok hk)⟩
noncomputable def gP (x:Str):Bool:=if nW x=true then false else if x == "" then false else if Txt.item x 0 == "." || Txt.item x (-1) == "." then false else true
theorem xY {f p:Addr} {x:Str} (D:DefAt W f (aT 13) ["text"]) (hm:W.mg "IPV4_RE" = some (.ref p)) (Pt:PatAt W p ipv 0 0 .none) (hz:x.length<=1000) (hnl:∀p,p<x.cps.size->x.cps.getD p 0≠10):Fn W (n+2) f [.str x] (.bool (gP x)):=by
 revert W n f p x;refine no_implicit_lambda%(hK5 ?_);generalize (HK5 _).1=W,(HK5 _).2.1=n,(HK5 _).2.2.1=f,(HK5 _).2.2.2.1=p,(HK5 _).2.2.2.2=x;intro D hm Pt hz hnl
 refine jY (rest:=[]) D (by kernel_rfl) rfl fun C hC hf=>?_
 have kp:C.env.kindOf "IPV4_RE" = some .globalImplicit:=aE hC (by kernel_rfl)
 show cD W C (n+1) [("text",some (.val (.str x)))] _ _
 refine cP (JE hm kp Pt .head hz hnl) (fun h=>⟨bO,.inl ?_⟩) fun h1=>?_
 ·rw [gP,if_pos h]
 refine cP (aN (aC .head) aS (gV rfl)) (fun h=>⟨bO,.inl ?_⟩) fun h2=>?_
 ·rw [gP,h1,if_neg (by decide),if_pos (by simpa [rC] using h)]
 have h2:(x == "")=false:=by simpa [rC] using h2
 have hne:0<x.length:=by
  rcases Nat.eq_zero_or_pos x.length with h|h
  ·exfalso
   have:x = "":=by
    obtain ⟨a⟩:=x
    have:a = #[]:=Array.eq_empty_of_size_eq_zero h
    subst this; rfl
   rw [this] at h2
   revert h2; decide
  ·exact h
 refine cP (cF (.or (aN (a5 (aC .head) aH (GQ (by decide) (by lia) hz)) aS (gV rfl)) fun _=>.or (aN (a5 (aC .head) (fN aH iU) (uR (by decide) ?_)) aS (gV rfl)) fun _=>.nil)) (fun h=>⟨bO,.inl ?_⟩) fun h3=>?_
 ·unfold Txt.charAt
  rw [seqIndex?_neg_one hne]
  show (x.cps[x.length-1]?).isSome=true
  have:x.length-1<x.cps.size:=by
   have:x.length=x.cps.size:=rfl
   lia
  rw [Array.getElem?_eq_getElem this]; rfl
 ·rw [gP,h1,if_neg (by decide),h2,if_neg (by decide),if_pos]
  simpa [rC,it] using h
 ·refine cN bO (.inl ?_)
  rw [gP,h1,if_neg (by decide),h2,if_neg (by decide),if_neg]
  simpa [rC,it] using h3
end
end
section
open PySem PySem.W PySem.Calls PyProof.Rows PySem.SeqAt
open PySem.Sre
noncomputable def iL (f:Nat->Bool) (t:Array Nat):Nat->Nat->Nat
 | _,0=>0
 | p,n+1=>if f (t.getD p 0)=true then iL f t (p+1) n+1 else 0
theorem qO (f:Nat->Bool) (t:Array Nat) (p n:Nat):iL f t p (n+1)=if f (t.getD p 0)=true then iL f t (p+1) n+1 else 0:=rfl
theorem pL (f:Nat->Bool) (t:Array Nat):∀n p,iL f t p n<=n
 | 0,_=>Nat.le_refl _
 | n+1,p=>by
  rw [qO]
  split
  ·have:=pL f t n (p+1); lia
  ·lia
theorem uH {f:Nat->Bool} {t:Array Nat}:∀(n p q:Nat),p<=q->q<p+iL f t p n->f (t.getD q 0)=true
 | 0,p,q,h1,h2=>absurd h2 (Nat.not_lt.mpr h1)
 | n+1,p,q,h1,h2=>by
  rw [qO] at h2
  by_cases hd:f (t.getD p 0)=true
  ·rw [if_pos hd] at h2
   by_cases hq:q=p
   ·rw [hq]; exact hd
   ·exact uH n (p+1) q (by lia) (by lia)
  ·rw [if_neg hd] at h2; lia
theorem rQ {f:Nat->Bool} {t:Array Nat}:∀(n p:Nat),iL f t p n<n->f (t.getD (p+iL f t p n) 0)=false
 | 0,p,h=>by lia
 | n+1,p,h=>by
  rw [qO] at h ⊢
  by_cases hd:f (t.getD p 0)=true
  ·rw [if_pos hd] at h ⊢
   have:=rQ (f:=f) (t:=t) n (p+1) (by lia)
   rw [show p+(iL f t (p+1) n+1)=p+1+iL f t (p+1) n from by lia]
   exact this
  ·rw [if_neg hd]; simpa using hd
theorem NL {code t:Array Nat} {i:Nat} {f:Nat->Bool} (ha:∀c sn,∃sn',accepts code i c sn=Except.ok (f c,sn')) (n:Nat):∀(p found:Nat) (sn:Sre.Seen),∃sn',Sre.run code t i n p found sn=Except.ok (found+iL f t p n,sn'):=by
 induction n with
 | zero=>exact fun p found sn=>⟨sn,rfl⟩
 | succ n ih =>
  intro p found sn
  obtain ⟨sn1,e1⟩:=ha (t.getD p 0) sn
  show ∃sn',(do let (yes,seen)←accepts code i (t.getD p 0) sn; if yes=true then Sre.run code t i n (p+1) (found+1) seen else pure (found,seen))=_
  rw [e1,qO]
  show ∃sn',(if f (t.getD p 0)=true then Sre.run code t i n (p+1) (found+1) sn1 else pure (found,sn1))=_
  by_cases h:f (t.getD p 0)=true
  ·rw [if_pos h,if_pos h]
   obtain ⟨sn2,e2⟩:=ih (p+1) (found+1) sn1
   exact ⟨sn2,by rw [e2,Nat.add_right_comm]; rfl⟩
  ·rw [if_neg h,if_neg h]
   exact ⟨sn1,rfl⟩
theorem KE (c:Nat) (sn:Sre.Seen):∃sn',accepts o5 9 c sn=Except.ok (c != 10,sn'):=⟨sn,rfl⟩
theorem JR (c:Nat) (sn:Sre.Seen):∃sn',accepts o5 31 c sn=Except.ok (c != 41,sn'):=⟨sn,rfl⟩
theorem z4 {m:M} {f:Nat->Bool} (h0:m.word 0=24) (h2:m.word 2=0) (h3:m.word 3=4294967295) (hin:m.inner=none) (hl:m.pos<=m.lim) (hz:m.lim<=100000) (ha:∀c sn,∃sn',accepts m.code (m.pc+4) c sn=Except.ok (f c,sn')) :
  ∃sn,m.exec=({ m with seen:=sn,pos:=m.pos+iL f m.text m.pos (m.lim-m.pos) }:M).afterRun .giveBack (iL f m.text m.pos (m.lim-m.pos)) (({ m with seen:=sn,pos:=m.pos+iL f m.text m.pos (m.lim-m.pos) }:M).keep false):=by
 have e0:ops[m.word 0]? = some .REPEAT_ONE:=by rw [h0]; rfl
 rw [g3 e0]
 dsimp only [mM]
 have w2:∀sx:Sre.Seen,({ m with seen:=sx }:M).word 2=0:=fun sx=>h2
 have w3:∀sx:Sre.Seen,({ m with seen:=sx }:M).word 3=4294967295:=fun sx=>h3
 rw [w2,w3]
 have hll:(m.lim:Int)-(m.pos:Int)=((m.lim-m.pos:Nat):Int):=by lia
 rw [hll]
 generalize hsn:(m.seen.add (m.word 0)).add (({ m with seen:=m.seen.add (m.word 0) }:M).word 4)=sn0
 rw [if_neg (show ¬((0:Nat):Int)>((m.lim-m.pos:Nat):Int) from by lia)]
 obtain ⟨sn2,e2⟩:=NL ha (t:=m.text) (m.lim-m.pos) m.pos 0 sn0
 have e3:Sre.run m.code m.text (m.pc+4) (min (if false=true then 0 else 4294967295) (((m.lim-m.pos:Nat):Int)).toNat) m.pos 0 sn0=Except.ok (iL f m.text m.pos (m.lim-m.pos),sn2):=by
  rw [if_neg (by decide),Int.toNat_natCast,RD _ (by lia),e2,Nat.zero_add]
 refine ⟨sn2,?_⟩
 rw [e3]
 dsimp only
 refine (if_neg (Nat.not_lt_zero _)).trans ?_; rw [hin]
 rfl
structure BasF (t:Array Nat) (m:M):Prop where
 code:m.code=o5
 text:m.text=t
 lim:m.lim=t.size
 out:m.outcome=none
 whole:m.wholeText=false
 must:m.mustAdvance=false
 inner:m.inner=none
 start:m.start=0
 msz:m.marks.size=2
theorem cS {t:Array Nat} {m:M} (B:BasF t m) {p:Nat} (hp:m.pc=p) (k:Nat):m.word k=o5.getD (p+k) 0:=by
 unfold M.word; rw [B.code,hp]
noncomputable def PZ (f:Sre.Frame) (p:Nat):Prop:=f.wait=.giveBack/\f.pc=5/\f.pos=p/\f.count=p/\f.kept.marks.size=0/\f.kept.whole=false/\f.kept.lastmark = -1
structure LS (t:Array Nat) (m:M) (p j:Nat):Prop extends BasF t m where
 ans:m.answer=none
 pc:m.pc=11+2*j
 pos:m.pos=p+j
 lm:m.lastmark = -1
 frames:∃f,m.frames=[f]/\PZ f p
 weight:m.weight=1
structure FS (t:Array Nat) (m:M) (p:Nat):Prop extends BasF t m where
 ans:m.answer=some false
 frames:∃f,m.frames=[f]/\PZ f p
 weight:m.weight=1
noncomputable def wP (j:Nat):Nat:=o5.getD (12+2*j) 0
theorem MH {t:Array Nat} {m:M} {p:Nat} (F:FS t m p) (hp:0<p):LS t m.step (p-1) 0:=by
 obtain ⟨f,hf,h1,h2,h3,h4,h5,h6,h7⟩:=F.frames
 rw [dY F.out F.ans hf]
 rw [d0 h1]
 dsimp only [eG]
 simp only [Bool.false_eq_true,if_false]
 have hw2:({ m with answer:=none,frames:=[],weight:=m.weight-(1+f.kept.marks.size),pc:=f.pc,pos:=f.pos,outermost:=f.outermost }:M).word 2=0:=by
  show m.code.getD (f.pc+2) 0=0
  rw [F.code,h2]; rfl
 rw [hw2,h4,if_neg (by lia)]
 have hwt:m.weight-(1+f.kept.marks.size)=0:=by rw [F.weight,h5]
 delta M.afterRun M.attempt M.putBack
 rw [h6]
 dsimp only
 rw [if_neg (by rw [hwt,h5]; decide)]
 refine ⟨⟨F.code,F.text,F.lim,F.out,F.whole,F.must,F.inner,F.start,F.msz⟩,rfl,?_,?_,h7,⟨_,rfl,rfl,h2,?_,?_,h5,h6,h7⟩,?_⟩
 ·show f.pc+1+m.code.getD (f.pc+1) 0=11
  rw [F.code,h2]; rfl
 ·show f.pos-1=_
  rw [h3]; rfl
 ·show f.pos-1=_
  rw [h3]
 ·show (p:Int)-1=_
  lia
 ·show m.weight-(1+f.kept.marks.size)+1+f.kept.marks.size=1
  rw [hwt,h5]
theorem F9 {t:Array Nat} {m:M} (F:FS t m 0):(a8 2 m).outcome=some .failed:=by
 obtain ⟨f,hf,h1,h2,h3,h4,h5,h6,h7⟩:=F.frames
 have h':m.step.outcome=none/\m.step.answer=some false/\m.step.frames=[]:=by
  rw [dY F.out F.ans hf]
  rw [d0 h1]
  dsimp only [eG]
  simp only [Bool.false_eq_true,if_false]
  have hw2:({ m with answer:=none,frames:=[],weight:=m.weight-(1+f.kept.marks.size),pc:=f.pc,pos:=f.pos,outermost:=f.outermost }:M).word 2=0:=by
   show m.code.getD (f.pc+2) 0=0
   rw [F.code,h2]; rfl
  rw [hw2,h4,if_pos (by decide)]
  unfold M.putBack
  exact ⟨F.out,rfl,rfl⟩
 show (m.step.step).outcome=_
 rw [k7 h'.1 h'.2.1 h'.2.2]
 rfl
theorem K8 {t:Array Nat} {m:M} {p j:Nat} (L:LS t m p j) (hj:j<7) :
  (p+j<t.size/\t.getD (p+j) 0=wP j/\LS t m.step p (j+1))\/((t.size<=p+j\/t.getD (p+j) 0≠wP j)/\FS t m.step p):=by
 obtain ⟨f,hf,hg⟩:=L.frames
 have hpc:m.pc<m.code.size:=by rw [L.pc,L.code]; show 11+2*j<39; lia
 have w0:m.word 0=16:=by
  rw [cS L.toBasF L.pc]
  refine lt7 (show j<7 by lia) ?_ ?_ ?_ ?_ ?_ ?_ ?_<;>rfl
 have w1:m.word 1=wP j:=by
  rw [cS L.toBasF L.pc]
  unfold wP
  congr 1; lia
 by_cases h:p+j<t.size/\t.getD (p+j) 0=wP j
 ·left
  obtain ⟨sn,e⟩:=vC L.out L.ans hpc w0 w1 (by rw [L.pos,L.lim]; exact h.1) (by rw [L.pos,L.text]; exact h.2)
  refine ⟨h.1,h.2,?_⟩
  rw [e]
  exact ⟨⟨L.code,L.text,L.lim,L.out,L.whole,L.must,L.inner,L.start,L.msz⟩,L.ans,by show m.pc+2=_; rw [L.pc]; lia,by show m.pos+1=_; rw [L.pos]; lia,L.lm,⟨f,hf,hg⟩,L.weight⟩
 ·right
  have h':t.size<=p+j\/t.getD (p+j) 0≠wP j:=by
   by_cases q:p+j<t.size
   ·exact .inr fun z=>h ⟨q,z⟩
   ·exact .inl (by lia)
  obtain ⟨sn,e⟩:=y6 L.out L.ans hpc w0 w1 (by simp only [L.pos,L.lim,L.text]; exact h')
  refine ⟨h',?_⟩
  rw [e]
  exact ⟨⟨L.code,L.text,L.lim,L.out,L.whole,L.must,L.inner,L.start,L.msz⟩,rfl,⟨f,hf,hg⟩,L.weight⟩
noncomputable def M7 (t:Array Nat) (p:Nat):Prop:=∀j,j<7->p+j<t.size/\t.getD (p+j) 0=wP j
theorem KW {t:Array Nat} {p:Nat}:∀(d j:Nat) (m:M),7-j=d->j<=7->LS t m p j->(∀i,i<j->p+i<t.size/\t.getD (p+i) 0=wP i) ->
  (M7 t p/\LS t (a8 d m) p 7)\/(¬M7 t p/\∃k,k<=d/\FS t (a8 k m) p):=by
 revert t p;refine no_implicit_lambda%(hK2 ?_);generalize (HK2 _).1=t,(HK2 _).2=p
 intro d
 induction d with
 | zero =>
  intro j m hd hj L hi
  obtain rfl:j=7:=Nat.le_antisymm hj (Nat.le_of_sub_eq_zero hd)
  exact .inl ⟨hi,L⟩
 | succ d ih =>
  intro j m hd hj L hi
  rcases K8 L (Nat.lt_of_sub_eq_succ hd) with ⟨h1,h2,L'⟩|⟨h1,F⟩
  ·rcases ih (j+1) m.step (PU (by assumption)) (by lia) L' (fun i hlt=>by
    by_cases hij:i=j
    ·subst hij; exact ⟨h1,h2⟩
    ·exact hi i (by lia)) with h|⟨h,k,hk,F⟩
   ·exact .inl h
   ·exact .inr ⟨h,k+1,by lia,F⟩
  ·refine .inr ⟨fun h=>?_,1,by lia,F⟩
   obtain ⟨q1,q2⟩:=h j (by lia)
   rcases h1 with h1|h1
   ·lia
   ·exact h1 q2
noncomputable def iK (c:Nat):Bool:=c != 41
noncomputable def Gb2 (f:Sre.Frame) (p k:Nat):Prop:=f.wait=.giveBack/\f.pc=27/\f.pos=p+7+k/\f.count=k/\f.kept.marks.size=0/\f.kept.whole=false/\f.kept.lastmark=0
structure BS (t:Array Nat) (m:M) (p k:Nat):Prop extends BasF t m where
 ans:m.answer=none
 pc:m.pc=34
 pos:m.pos=p+7+k
 lm:m.lastmark=0
 m0:m.marks.getD 0 none=some (p+7)
 outer:m.outermost=true->True
 frames:∃g f,m.frames=[g,f]/\PZ f p/\Gb2 g p k
 weight:m.weight=2
theorem n3 {m:M} {i:Nat} (h0:m.word 0=17) (h1:m.word 1=i):m.exec=({ m with seen:=m.seen.add (m.word 0) }:M).mark i:=by
 have e0:ops[m.word 0]? = some .MARK:=by rw [h0]; rfl
 rw [g3 e0]
 dsimp only [mM]
 have:({ m with seen:=m.seen.add (m.word 0) }:M).word 1=i:=h1
 rw [this]
theorem EF (a:Array (Option Nat)) (i:Nat) (v:Option Nat) (h:i<a.size):(a.setIfInBounds i v).getD i none=v:=by
 simp [Array.getD,h]
theorem tF (a:Array (Option Nat)) (i j:Nat) (v:Option Nat) (h:i≠j):(a.setIfInBounds i v).getD j none=a.getD j none:=by
 simp only [Array.getD_eq_getD_getElem?]
 rw [Array.getElem?_setIfInBounds_ne h]
theorem NV {t:Array Nat} {m:M} {p:Nat} (hz:t.size<=100000) (L:LS t m p 7) (hp:p+7<=t.size):BS t (a8 2 m) p (iL iK t (p+7) (t.size-(p+7))):=by
 obtain ⟨f,hq⟩:=L.frames; have hf:=hq.1; have hg:=hq.2
 have s1:m.step=({ m with seen:=m.seen.add (m.word 0) }:M).mark 0:=by
  rw [cJ L.out L.ans (by rw [L.pc,L.code]; decide)]
  exact n3 (by rw [cS L.toBasF L.pc]; rfl) (by rw [cS L.toBasF L.pc]; rfl)
 have B1:BasF t m.step/\m.step.answer=none/\m.step.pc=27/\m.step.pos=p+7/\m.step.lastmark=0/\m.step.lastindex=m.lastindex/\m.step.marks.getD 0 none=some (p+7)/\m.step.frames=[f]/\m.step.weight=1:=by
  rw [s1]
  unfold M.mark
  have hc:((0:Nat):Int)<=m.lastmark+1:=by rw [L.lm]; decide
  dsimp only
  rw [if_pos hc]
  refine ⟨⟨L.code,L.text,L.lim,L.out,L.whole,L.must,L.inner,L.start,?_⟩,L.ans,?_,L.pos,?_,rfl,?_,hf,L.weight⟩
  ·show (m.marks.setIfInBounds 0 _).size=2
   rw [Array.size_setIfInBounds]; exact L.msz
  ·show m.pc+2=27
   rw [L.pc]
  ·show max m.lastmark ((0:Nat):Int)=0
   rw [L.lm]; decide
  ·show (m.marks.setIfInBounds 0 (some m.pos)).getD 0 none=_
   rw [EF _ _ _ (by rw [L.msz]; decide),L.pos]
 have B:=B1.1; have b1:=B1.2.1; have b2:=B1.2.2.1; have b3:=B1.2.2.2.1; have b4:=B1.2.2.2.2.1; have b5:=B1.2.2.2.2.2.1; have b6:=B1.2.2.2.2.2.2.1; have b7:=B1.2.2.2.2.2.2.2.1; have b8:=B1.2.2.2.2.2.2.2.2
 show BS t m.step.step p _
 generalize m.step=m1 at B b1 b2 b3 b4 b5 b6 b7 b8 ⊢
 rw [cJ B.out b1 (by rw [b2,B.code]; decide)]
 obtain ⟨sn,e⟩:=z4 (m:=m1) (f:=iK) (by rw [cS B b2]; rfl) (by rw [cS B b2]; rfl) (by rw [cS B b2]; rfl) B.inner (by rw [b3,B.lim]; exact hp) (by rw [B.lim]; exact hz) (fun c sn=>by rw [B.code,b2]; exact JR c sn)
 have hc:iL iK m1.text m1.pos (m1.lim-m1.pos)=iL iK t (p+7) (t.size-(p+7)):=by simp only [B.text,b3,B.lim]
 rw [e,hc]
 generalize iL iK t (p+7) (t.size-(p+7))=N
 delta M.afterRun M.attempt M.keep
 dsimp only
 rw [if_neg (by rw [b8]; show ¬1+1+0>16777216; decide)]
 refine ⟨⟨B.code,B.text,B.lim,B.out,B.whole,B.must,B.inner,B.start,B.msz⟩,b1,?_,?_,b4,b6,fun _=>trivial,⟨_,f,by rw [b7],hg,rfl,b2,?_,rfl,rfl,rfl,b4⟩,?_⟩
 ·show m1.pc+1+m1.code.getD (m1.pc+1) 0=34
  rw [B.code,b2]; rfl
 ·show m1.pos+N=_
  rw [b3]
 ·show m1.pos+N=_
  rw [b3]
 ·show m1.weight+1+0=2
  rw [b8]
theorem NK {t:Array Nat} {m:M} {p k:Nat} (L:BS t m p k) (h:t.size<=p+7+k\/t.getD (p+7+k) 0≠41):(if k=0 then FS t (a8 3 m) p else BS t (a8 3 m) p (k-1)):=by
 obtain ⟨g,f,hf,hg,h1,h2,h3,h4,h5,h6,h7⟩:=L.frames
 have s1:m.step=({ m with seen:=m.seen.add (m.word 0) }:M).mark 1:=by
  rw [cJ L.out L.ans (by rw [L.pc,L.code]; decide)]
  exact n3 (by rw [cS L.toBasF L.pc]; rfl) (by rw [cS L.toBasF L.pc]; rfl)
 have B1:BasF t m.step/\m.step.answer=none/\m.step.pc=36/\m.step.pos=p+7+k/\m.step.marks.getD 0 none=some (p+7)/\m.step.frames=[g,f]/\m.step.weight=2:=by
  rw [s1]
  unfold M.mark
  have hc:((1:Nat):Int)<=m.lastmark+1:=by rw [L.lm]; decide
  dsimp only
  rw [if_pos hc]
  refine ⟨⟨L.code,L.text,L.lim,L.out,L.whole,L.must,L.inner,L.start,?_⟩,L.ans,?_,L.pos,?_,hf,L.weight⟩
  ·show (m.marks.setIfInBounds 1 _).size=2
   rw [Array.size_setIfInBounds]; exact L.msz
  ·show m.pc+2=36
   rw [L.pc]
  ·show (m.marks.setIfInBounds 1 (some m.pos)).getD 0 none=_
   rw [tF _ _ _ _ (by decide)]; exact L.m0
 have B:=B1.1; have b1:=B1.2.1; have b2:=B1.2.2.1; have b3:=B1.2.2.2.1; have b6:=B1.2.2.2.2.1; have b7:=B1.2.2.2.2.2.1; have b8:=B1.2.2.2.2.2.2
 show (if k=0 then FS t m.step.step.step p else BS t m.step.step.step p (k-1))
 generalize m.step=m1 at B b1 b2 b3 b6 b7 b8 ⊢
 obtain ⟨sn,e⟩:=y6 (c:=41) B.out b1 (by rw [b2,B.code]; decide) (by rw [cS B b2]; rfl) (by rw [cS B b2]; rfl) (by simp only [b3,B.lim,B.text]; exact h)
 have C1:BasF t m1.step/\m1.step.answer=some false/\m1.step.marks.getD 0 none=some (p+7)/\m1.step.frames=[g,f]/\m1.step.weight=2:=by
  rw [e]
  exact ⟨⟨B.code,B.text,B.lim,B.out,B.whole,B.must,B.inner,B.start,B.msz⟩,rfl,b6,b7,b8⟩
 have C:=C1.1; have c1:=C1.2.1; have c2:=C1.2.2.1; have c3:=C1.2.2.2.1; have c4:=C1.2.2.2.2
 generalize m1.step=m2 at C c1 c2 c3 c4 ⊢
 rw [dY C.out c1 c3]
 rw [d0 h1]
 dsimp only [eG]
 simp only [Bool.false_eq_true,if_false]
 have hw2:({ m2 with answer:=none,frames:=[f],weight:=m2.weight-(1+g.kept.marks.size),pc:=g.pc,pos:=g.pos,outermost:=g.outermost }:M).word 2=0:=by
  show m2.code.getD (g.pc+2) 0=0
  rw [C.code,h2]; rfl
 have hwt:m2.weight-(1+g.kept.marks.size)=1:=by rw [c4,h5]
 rw [hw2,h4]
 by_cases hk:k=0
 ·rw [if_pos hk,if_pos (by lia)]
  unfold M.putBack
  rw [h6]
  exact ⟨⟨C.code,C.text,C.lim,C.out,C.whole,C.must,C.inner,C.start,C.msz⟩,rfl,⟨f,rfl,hg⟩,hwt⟩
 ·rw [if_neg hk,if_neg (by lia)]
  delta M.afterRun M.attempt M.putBack
  rw [h6]
  dsimp only
  rw [if_neg (by rw [hwt,h5]; decide)]
  refine ⟨⟨C.code,C.text,C.lim,C.out,C.whole,C.must,C.inner,C.start,C.msz⟩,rfl,?_,?_,h7,c2,fun _=>trivial,⟨_,f,rfl,hg,rfl,h2,?_,?_,h5,h6,h7⟩,?_⟩
  ·show g.pc+1+m2.code.getD (g.pc+1) 0=34
   rw [C.code,h2]; rfl
  ·show g.pos-1=_
   rw [h3]; lia
  ·show g.pos-1=_
   rw [h3]; lia
  ·show (k:Int)-1=_
   lia
  ·show m2.weight-(1+g.kept.marks.size)+1+g.kept.marks.size=2
   rw [hwt,h5]
theorem HT {t:Array Nat} {p:Nat} (k:Nat):∀(m:M),BS t m p k->(∀q,p+7<=q->q<=p+7+k->t.size<=q\/t.getD q 0≠41)->∃j,j<=3*(k+1)/\FS t (a8 j m) p:=by
 induction k with
 | zero =>
  intro m L h
  have:=NK L (h _ (by lia) (Nat.le_refl _))
  rw [if_pos rfl] at this
  exact ⟨3,by lia,this⟩
 | succ k ih =>
  intro m L h
  have q:=NK L (h _ (by lia) (Nat.le_refl _))
  rw [if_neg (by lia),Nat.add_sub_cancel] at q
  obtain ⟨j,hj,F⟩:=ih _ q fun q h1 h2=>h q h1 (by lia)
  exact ⟨3+j,by lia,by rw [aX]; exact F⟩
structure Done (m:M) (p k:Nat):Prop where
 out:m.outcome=some .matched
 m0:m.marks.getD 0 none=some (p+7)
 m1:m.marks.getD 1 none=some (p+7+k)
 lm:m.lastmark=1
theorem KS {t:Array Nat} {m:M} {p k:Nat} (L:BS t m p k) (h:p+7+k<t.size/\t.getD (p+7+k) 0=41):Done (a8 6 m) p k:=by
 obtain ⟨g,f,hf,hg,h1,h2,h3,h4,h5,h6,h7⟩:=L.frames
 have s1:m.step=({ m with seen:=m.seen.add (m.word 0) }:M).mark 1:=by
  rw [cJ L.out L.ans (by rw [L.pc,L.code]; decide)]
  exact n3 (by rw [cS L.toBasF L.pc]; rfl) (by rw [cS L.toBasF L.pc]; rfl)
 have B1:BasF t m.step/\m.step.answer=none/\m.step.pc=36/\m.step.pos=p+7+k/\m.step.marks.getD 0 none=some (p+7)/\m.step.marks.getD 1 none=some (p+7+k)/\m.step.lastmark=1/\m.step.frames=[g,f]:=by
  rw [s1]
  unfold M.mark
  have hc:((1:Nat):Int)<=m.lastmark+1:=by rw [L.lm]; decide
  dsimp only
  rw [if_pos hc]
  refine ⟨⟨L.code,L.text,L.lim,L.out,L.whole,L.must,L.inner,L.start,?_⟩,L.ans,?_,L.pos,?_,?_,?_,hf⟩
  ·show (m.marks.setIfInBounds 1 _).size=2
   rw [Array.size_setIfInBounds]; exact L.msz
  ·show m.pc+2=36
   rw [L.pc]
  ·show (m.marks.setIfInBounds 1 (some m.pos)).getD 0 none=_
   rw [tF _ _ _ _ (by decide)]; exact L.m0
  ·show (m.marks.setIfInBounds 1 (some m.pos)).getD 1 none=_
   rw [EF _ _ _ (by rw [L.msz]; decide),L.pos]
  ·show max m.lastmark ((1:Nat):Int)=1
   rw [L.lm]; decide
 have B:=B1.1; have b1:=B1.2.1; have b2:=B1.2.2.1; have b3:=B1.2.2.2.1; have b4:=B1.2.2.2.2.1; have b5:=B1.2.2.2.2.2.1; have b6:=B1.2.2.2.2.2.2.1; have b7:=B1.2.2.2.2.2.2.2
 show Done m.step.step.step.step.step.step p k
 generalize m.step=m1 at B b1 b2 b3 b4 b5 b6 b7 ⊢
 obtain ⟨sn,e⟩:=vC (c:=41) B.out b1 (by rw [b2,B.code]; decide) (by rw [cS B b2]; rfl) (by rw [cS B b2]; rfl) (by rw [b3,B.lim]; exact h.1) (by rw [b3,B.text]; exact h.2)
 have C1:BasF t m1.step/\m1.step.answer=none/\m1.step.pc=38/\m1.step.marks.getD 0 none=some (p+7)/\m1.step.marks.getD 1 none=some (p+7+k)/\m1.step.lastmark=1/\m1.step.frames=[g,f]:=by
  rw [e]
  exact ⟨⟨B.code,B.text,B.lim,B.out,B.whole,B.must,B.inner,B.start,B.msz⟩,b1,by show m1.pc+2=38; rw [b2],b4,b5,b6,b7⟩
 have C:=C1.1; have c1:=C1.2.1; have c2:=C1.2.2.1; have c3:=C1.2.2.2.1; have c4:=C1.2.2.2.2.1; have c5:=C1.2.2.2.2.2.1; have c6:=C1.2.2.2.2.2.2
 generalize m1.step=m2 at C c1 c2 c3 c4 c5 c6 ⊢
 have D1:m2.step.outcome=none/\m2.step.answer=some true/\m2.step.marks=m2.marks/\m2.step.lastmark=m2.lastmark/\m2.step.frames=[g,f]:=by
  rw [cJ C.out c1 (by rw [c2,C.code]; decide)]
  have e0:ops[m2.word 0]? = some .SUCCESS:=by rw [cS C c2]; rfl
  rw [g3 e0]
  dsimp only [mM]
  rw [C.whole,C.must]
  simp only [Bool.false_and,Bool.or_self,Bool.and_false,Bool.false_eq_true,if_false]
  exact ⟨C.out,rfl,rfl,rfl,c6⟩
 have d1:=D1.1; have d2:=D1.2.1; have d3:=D1.2.2.1; have d4:=D1.2.2.2.1; have d5:=D1.2.2.2.2
 generalize m2.step=m3 at d1 d2 d3 d4 d5 ⊢
 have E1:m3.step.outcome=none/\m3.step.answer=some true/\m3.step.marks=m3.marks/\m3.step.lastmark=m3.lastmark/\m3.step.frames=[f]:=by
  rw [dY d1 d2 d5]
  rw [d0 h1]
  dsimp only [eG]
  exact ⟨d1,rfl,rfl,rfl,rfl⟩
 have e1:=E1.1; have e2:=E1.2.1; have e3:=E1.2.2.1; have e4:=E1.2.2.2.1; have e5:=E1.2.2.2.2
 generalize m3.step=m4 at e1 e2 e3 e4 e5 ⊢
 have F1:m4.step.outcome=none/\m4.step.answer=some true/\m4.step.marks=m4.marks/\m4.step.lastmark=m4.lastmark/\m4.step.frames=[]:=by
  rw [dY e1 e2 e5]
  rw [d0 hg.1]
  dsimp only [eG]
  exact ⟨e1,rfl,rfl,rfl,rfl⟩
 have f1:=F1.1; have f2:=F1.2.1; have f3:=F1.2.2.1; have f4:=F1.2.2.2.1; have f5:=F1.2.2.2.2
 generalize m4.step=m5 at f1 f2 f3 f4 f5 ⊢
 rw [k7 f1 f2 f5]
 refine ⟨rfl,?_,?_,?_⟩
 ·show m5.marks.getD 0 none=_
  rw [f3,e3,d3]; exact c3
 ·show m5.marks.getD 1 none=_
  rw [f3,e3,d3]; exact c4
 ·show m5.lastmark=1
  simp only [f4,e4,d4]; exact c5
section
variable {W:Wd} {C:Cx} {n:Nat} {ρ ρ':aW} {P:Fl->aW->Prop}
section
noncomputable def rH (t:Array Nat) (p:Nat):Nat:=iL iK t (p+7) (t.size-(p+7))
noncomputable def gQ (t:Array Nat) (p:Nat):Prop:=M7 t p/\p+7+rH t p<t.size
theorem qG {c:Nat} (h:iK c=false):c=41:=by
 unfold iK at h
 simpa using h
theorem yU {t:Array Nat} (hz:t.size<=100000) (p:Nat):∀(m:M),LS t m p 0->∃N,N<=(p+1)*(3*t.size+30) /\
  ((∃q,q<=p/\gQ t q/\(∀r,q<r->r<=p->¬gQ t r)/\Done (a8 N m) q (rH t q))\/((∀r,r<=p->¬gQ t r)/\(a8 N m).outcome=some .failed)):=by
 revert hz;revert t p;refine no_implicit_lambda%(hK2 ?_);generalize (HK2 _).1=t,(HK2 _).2=p;intro hz
 induction p with
 | zero =>
  intro m L
  rcases KW 7 0 m rfl (by lia) L (fun i h=>by lia) with ⟨hA,L7⟩|⟨hA,k,hk,F⟩
  ·have h7:=(hA 6 (by lia)).1
   have B:=NV hz L7 (by lia)
   have cl:=pL iK t (t.size-(0+7)) (0+7)
   by_cases hg:0+7+rH t 0<t.size
   ·have h41:=qG (rQ (f:=iK) (t:=t) (t.size-(0+7)) (0+7) (OJ hg))
    refine ⟨7+(2+6),by lia,.inl ⟨0,Nat.le_refl _,⟨hA,hg⟩,fun r h1 h2=>by lia,?_⟩⟩
    rw [aX,aX]
    exact KS B ⟨hg,h41⟩
   ·obtain ⟨j,hj,F⟩:=HT _ _ B (fun q h1 h2=>by
     by_cases hq:t.size<=q
     ·exact .inl hq
     ·right
      have:=uH (f:=iK) (t:=t) (t.size-(0+7)) (0+7) q h1 (by unfold rH at hg; lia)
      intro z
      rw [z] at this; exact jD this)
    refine ⟨7+(2+(j+2)),by lia,.inr ⟨fun r hr=>?_,?_⟩⟩
    ·have:r=0:=by lia
     subst this
     exact fun h=>hg h.2
    ·simp only [aX,aX,aX]
     exact F9 F
  ·refine ⟨k+2,by lia,.inr ⟨fun r hr=>?_,?_⟩⟩
   ·have:r=0:=by lia
    subst this
    exact fun h=>hA h.1
   ·rw [aX]
    exact F9 F
 | succ p ih =>
  intro m L
  have next:∀ {j:Nat},j<=3*t.size+25->FS t (a8 j m) (p+1)->¬gQ t (p+1)->∃N,N<=(p+1+1)*(3*t.size+30) /\
    ((∃q,q<=p+1/\gQ t q/\(∀r,q<r->r<=p+1->¬gQ t r)/\Done (a8 N m) q (rH t q))\/((∀r,r<=p+1->¬gQ t r)/\(a8 N m).outcome=some .failed)):=fun {j} hj F hno=>by
   obtain ⟨N,hN,h⟩:=ih _ (MH F (Nat.succ_pos _))
   have e:a8 (j+(1+N)) m=a8 N (a8 j m).step:=by rw [aX,aX]; rfl
   refine ⟨j+(1+N),by rw [Nat.add_mul (p+1) 1]; lia,?_⟩
   rw [e]
   rcases h with ⟨q,hq,h1,h2,h3⟩|⟨h1,h2⟩
   ·refine .inl ⟨q,by lia,h1,fun r a b=>?_,h3⟩
    by_cases hr:r=p+1
    ·rw [hr]; exact hno
    ·exact h2 r a (by lia)
   ·refine .inr ⟨fun r b=>?_,h2⟩
    by_cases hr:r=p+1
    ·rw [hr]; exact hno
    ·exact h1 r (by lia)
  rcases KW 7 0 m rfl (by lia) L (fun i h=>by lia) with ⟨hA,L7⟩|⟨hA,k,hk,F⟩
  ·have h7:=(hA 6 (by lia)).1
   have B:=NV hz L7 (by lia)
   have cl:=pL iK t (t.size-(p+1+7)) (p+1+7)
   by_cases hg:p+1+7+rH t (p+1)<t.size
   ·have h41:=qG (rQ (f:=iK) (t:=t) (t.size-(p+1+7)) (p+1+7) (OJ hg))
    refine ⟨7+(2+6),by rw [Nat.add_mul (p+1) 1]; lia,.inl ⟨p+1,Nat.le_refl _,⟨hA,hg⟩,fun r h1 h2=>by lia,?_⟩⟩
    rw [aX,aX]
    exact KS B ⟨hg,h41⟩
   ·obtain ⟨j,hj,F⟩:=HT _ _ B (fun q h1 h2=>by
     by_cases hq:t.size<=q
     ·exact .inl hq
     ·right
      have:=uH (f:=iK) (t:=t) (t.size-(p+1+7)) (p+1+7) q h1 (by unfold rH at hg; lia)
      intro z
      rw [z] at this; exact jD this)
    exact next (j:=7+(2+j)) (by lia) (by rw [aX,aX]; exact F) fun h=>hg h.2
  ·exact next (by lia) F fun h=>hA h.1
noncomputable def jR (t:Array Nat):Nat:=iL (fun c=>c != 10) t 0 t.size
noncomputable def gY (t:Array Nat):Option Nat->Prop
 | some q=>q<=jR t/\gQ t q/\∀r,q<r->r<=jR t->¬gQ t r
 | none=>∀r,r<=jR t->¬gQ t r
theorem oE {t:Array Nat} {a b:Option Nat} (ha:gY t a) (hb:gY t b):a=b:=by
 cases a with
 | none =>
  cases b with
  | none=>rfl
  | some q=>exact absurd hb.2.1 (ha q hb.1)
 | some p =>
  cases b with
  | none=>exact absurd ha.2.1 (hb p ha.1)
  | some q =>
   rcases Nat.lt_trichotomy p q with h|h|h
   ·exact absurd hb.2.1 (ha.2.2 q h hb.1)
   ·rw [h]
   ·exact absurd ha.2.1 (hb.2.2 p h ha.1)
noncomputable def m0 (t:Array Nat):M:={ code:=o5,text:=t,lim:=t.size,start:=0,pc:=5,pos:=0,handed:=0,marks:=Array.replicate (2*1) none,mustAdvance:=false,seen:=({}:Sre.Seen).add 14,wholeText:=false }
theorem wL {t:Array Nat} (h8:8<=t.size):Sre.forMatch o5 t 1 0 t.size false false=m0 t:=by
 unfold Sre.forMatch
 have hh:Sre.header o5=(8,5):=rfl
 rw [hh]
 refine (if_neg (by simp; lia)).trans ?_
 rfl
theorem xR {t:Array Nat} (hz:t.size<=100000) (h8:8<=t.size):LS t (a8 1 (Sre.forMatch o5 t 1 0 t.size false false)) (jR t) 0:=by
 rw [wL h8]
 show LS t (m0 t).step _ _
 rw [cJ (m:=m0 t) rfl rfl (by show 5<39; decide)]
 obtain ⟨sn,e⟩:=z4 (m:=m0 t) (f:=fun c=>c != 10) rfl rfl rfl rfl (Nat.zero_le _) hz (fun c sn=>KE c sn)
 have hc:iL (fun c=>c != 10) (m0 t).text (m0 t).pos ((m0 t).lim-(m0 t).pos)=jR t:=rfl
 rw [e,hc]
 generalize jR t=N
 delta M.afterRun M.attempt M.keep
 dsimp only
 rw [if_neg (by show ¬0+1+0>16777216; decide)]
 refine ⟨⟨rfl,rfl,rfl,rfl,rfl,rfl,rfl,rfl,by show (Array.replicate 2 none).size=2; simp⟩,rfl,rfl,?_,rfl,⟨_,rfl,rfl,rfl,?_,rfl,rfl,rfl,rfl⟩,rfl⟩
 ·show 0+N=N+0
  lia
 ·show 0+N=N
  lia
theorem F7 {t:Array Nat} (hz:t.size<=1000) {r:Option Nat} (hr:gY t r):∃N,N<=1000000000/\(match r with|some q=>Done (a8 N (Sre.forMatch o5 t 1 0 t.size false false)) q (rH t q)|none=>(a8 N (Sre.forMatch o5 t 1 0 t.size false false)).outcome=some .failed):=by
 revert hz hr;revert t r;refine no_implicit_lambda%(hK2 ?_);generalize (HK2 _).1=t,(HK2 _).2=r;intro hz hr
 by_cases h8:8<=t.size
 ·obtain ⟨N,hN,h⟩:=yU (by lia) _ _ (xR (by lia) h8)
  have hl:jR t<=t.size:=pL _ _ _ _
  have hb:(jR t+1)*(3*t.size+30)<=1001*3030:=Nat.mul_le_mul (by lia) (by lia)
  refine ⟨1+N,by lia,?_⟩
  rcases h with ⟨q,hq,h1,h2,h3⟩|⟨h1,h2⟩
  ·have:r=some q:=oE hr (b:=some q) ⟨hq,h1,h2⟩
   subst this
   rw [aX]; exact h3
  ·have:r=none:=oE hr (b:=none) h1
   subst this
   show (a8 (1+N) _).outcome=_
   rw [aX]; exact h2
 ·have:r=none:=by
   cases r with
   | none=>rfl
   | some q=>have:=hr.2.1.2; lia
  subst this
  refine ⟨1,by lia,?_⟩
  unfold Sre.forMatch
  have hh:Sre.header o5=(8,5):=rfl
  rw [hh]
  rw [if_pos (by simp; lia)]
  rfl
end
end
end
section
open PySem PySem.W PySem.Calls PyProof.Rows PySem.SeqAt
section
variable {W:Wd} {C:Cx} {n:Nat} {ρ ρ':aW} {P:Fl->aW->Prop}
noncomputable def jH (b:Array UInt8):List (Array UInt8):=
 if (!b.isEmpty && !b.any Builtin.Bytes.isSpace)=true then [b] else (Builtin.Bytes.words (b.size+1) (b.size+1) b.toList).map (·.toArray)
theorem v0 {A:Around} {E:Value->Shared->Prop} {g:Gh}:∀(ws:List (List UInt8)) (s:Shared) (Q:List Value->Shared->Prop),(∀w∈ws,w.length<=1000) ->
  (∀vs k,DatAll g vs (ws.map fun w=>.bytes w.toArray)->Q vs { s with toks:=k })->wpAny (model W.prog W.w) A (ws.mapM fun w=>Builtin.Bytes.Kind.new .bytes w.toArray) Q E s
 | [],s,Q,_,h=>by rw [List.mapM_nil]; exact wpAny_pure (h [] s.toks .nil)
 | w::ws,s,Q,hz,h=>by
  rw [List.mapM_cons]
  refine wpAny_bind ?_
  have hw:=hz w List.mem_cons_self
  refine wpAny_mkBytes ?_ (by rw [List.size_toArray,sizeLine_eq]; lia)
  refine wpAny_bind (v0 (g:=g) ws _ _ (fun w hw=>hz w (List.mem_cons_of_mem _ hw)) fun vs k hv=>wpAny_pure ?_)
  exact h _ _ (.cons (.bytes _ _) hv)
theorem nR:∀(fuel left:Nat) (l:List UInt8),(Builtin.Bytes.words fuel left l).length<=fuel/\∀w∈Builtin.Bytes.words fuel left l,w.length<=l.length
 | 0,_,_=>⟨Nat.le_refl _,fun _ h=>nomatch h⟩
 | fuel+1,left,l=>by
  unfold Builtin.Bytes.words
  have hd:(l.dropWhile Builtin.Bytes.isSpace).length<=l.length:=(List.dropWhile_sublist _).length_le
  cases hr:l.dropWhile Builtin.Bytes.isSpace with
  | nil=>exact ⟨Nat.zero_le _,fun _ h=>nomatch h⟩
  | cons c r =>
   rw [hr] at hd
   dsimp only
   split
   ·exact ⟨by simp,fun w hw=>by rw [List.mem_singleton.mp hw]; exact hd⟩
   ·obtain ⟨h1,h2⟩:=nR fuel (left-1) ((c::r).dropWhile (!Builtin.Bytes.isSpace ·))
    refine ⟨by rw [List.length_cons]; lia,fun w hw=>?_⟩
    rcases List.mem_cons.mp hw with rfl|hw
    ·exact Nat.le_trans (List.takeWhile_sublist _).length_le hd
    ·exact Nat.le_trans (h2 w hw) (Nat.le_trans (List.dropWhile_sublist _).length_le hd)
theorem G9 {b:Array UInt8} (hz:b.size<=1000):IsMeth W n (.bytes b) "split" [] (.list ((jH b).map .bytes)):=
 ⟨"bytes","bytes.split",PySem.W.FB.plainAttrs_bytes,j6,rS,fun s g v _ hv=>kG (fun _=>⟨rfl,fun a e=>nomatch e⟩) hv,fun A s g E vs R B hv=>by
  refine qK (fun v h1=>?_) hv
  refine kG (fun t=>?_) h1
  ··skip
    refine wpAny_call_entry j6 (rfl:s.TypeIs (.bytes b t) "bytes") o0 ?_ (rN _)
    show wpAny _ A.in1 (do
     rule "bytes.split.whitespace"
     if (decide (b.size+1>0) && !b.isEmpty && !b.any Builtin.Bytes.isSpace)=true then ret (← newList [←Builtin.Bytes.Kind.same .bytes (.bytes b t)])
     else do
      ret (← newList (← (Builtin.Bytes.words (b.size+1) (b.size+1) b.toList).mapM fun w=>Builtin.Bytes.Kind.new .bytes w.toArray))) _ E s
    refine wpAny_bind (wpAny_rule ?_)
    have e0:(decide (b.size+1>0) && !b.isEmpty && !b.any Builtin.Bytes.isSpace)=(!b.isEmpty && !b.any Builtin.Bytes.isSpace):=by
     rw [decide_eq_true (Nat.succ_pos _),Bool.true_and]
    rw [e0]
    unfold jH
    by_cases hc:(!b.isEmpty && !b.any Builtin.Bytes.isSpace)=true
    ·rw [if_pos hc,if_pos hc]
     refine wpAny_bind (m:=Builtin.Bytes.Kind.same .bytes (.bytes b t)) (wpAny_pure (wpAny_bind (wpAny_mono (qZ B (.cons (.bytes b t) .nil) (by rw [sizeLine_eq]; exact Nat.le_of_ble_eq_true rfl)) (fun v s' h=>wpAny_pure ⟨_,rfl,h⟩) fun _ _ e=>e)))
    ·rw [if_neg hc,if_neg hc]
     obtain ⟨w1,w2⟩:=nR (b.size+1) (b.size+1) b.toList
     refine wpAny_bind (v0 (g:=g) _ s _ (fun w hw=>by have h1:=w2 w hw; have h2:b.toList.length=b.size:=Array.length_toList; lia) fun us k hu=>?_)
     have B':Base W { s with toks:=k } g:=B.step (Ext.toks B.gok)
     refine wpAny_bind (go3 (qZ B' (ds:=((Builtin.Bytes.words (b.size+1) (b.size+1) b.toList).map (·.toArray)).map .bytes) (by rw [List.map_map]; exact hu) (by simp only [List.length_map,List.length_map,sizeLine_eq]; lia)) (fun v s' g' x h=>wpAny_pure ⟨_,rfl,g',(Ext.toks B.gok).trans x,h⟩))⟩
structure NamesAt (W:Wd) (d:Addr):Prop where
 map:∀h:Heap,(∀o,W.top.get? d=some o->h.get? d=some o)->∃f t,h.MapOf (strKind W.prog W.w) d f/\f "flags" = some (.int 1 t)
 tb:d∉W.tb
noncomputable def u8 (b:Array UInt8) (t:Tok) (p:Addr) (lim:Nat) (li:Int) (ta:Addr):Obj:={ cls:=.type "re.Match",data:=.fields #[.bytes b t,.ref p,rawInt (0:Nat),rawInt lim,rawInt li,.ref ta] }
noncomputable def pV (st hd b e:Nat):Obj:={ cls:=.type "tuple",data:=.seq [rawInt st,rawInt hd,rawInt b,rawInt e].toArray }
theorem xZ:typeLookup (.type "str") "__index__" = pure none:=by rw [typeLookup_type,builtinLookup_eq_fast]; kernel_rfl
noncomputable def sM (b:Array UInt8) (q e:Nat):Array UInt8:=((b.map (·.toNat)).extract q e).map (·.toUInt8)
open Builtin.Re in
theorem GZ {A:Around} {E:Value->Shared->Prop} {s:Shared} {g:Gh} {p d ma ta:Addr} {b:Array UInt8} {t u:Tok} {lim st hd q e:Nat} {li:Int} {Q:Value->Shared->Prop} (B:Base W s g) (Pt:PatAt W p o5 1 1 (.ref d)) (N:NamesAt W d)
  (h1:(ma,u8 b t p lim li ta)∈g) (h2:(ta,pV st hd q e)∈g) (hz:b.size<=1000) (h:∀k t',Q (.bytes (sM b q e) t') { s with toks:=k }) :
  wpAny (model W.prog W.w) A (call (.builtin "re.Match.group") [.ref ma,.str "flags" u]) Q E s:=by
 revert W A E s g p d ma ta b t u lim st hd q e li Q;refine no_implicit_lambda%(hK10 ?_);generalize (HK10 _).1=W,(HK10 _).2.1=A,(HK10 _).2.2.1=E,(HK10 _).2.2.2.1=s,(HK10 _).2.2.2.2.1=g,(HK10 _).2.2.2.2.2.1=p,(HK10 _).2.2.2.2.2.2.1=d,(HK10 _).2.2.2.2.2.2.2.1=ma,(HK10 _).2.2.2.2.2.2.2.2.1=ta,(HK10 _).2.2.2.2.2.2.2.2.2=b;refine no_implicit_lambda%(hK9 ?_);generalize (HK9 _).1=t,(HK9 _).2.1=u,(HK9 _).2.2.1=lim,(HK9 _).2.2.2.1=st,(HK9 _).2.2.2.2.1=hd,(HK9 _).2.2.2.2.2.1=q,(HK9 _).2.2.2.2.2.2.1=e,(HK9 _).2.2.2.2.2.2.2.1=li,(HK9 _).2.2.2.2.2.2.2.2=Q;intro B Pt N h1 h2 hz h
 have m1:=(B.gok _ h1).1
 have m2:=(B.gok _ h2).1
 refine wpAny_call_entry kB ⟨_,m1,rfl⟩ oX ?_ (rL _ _)
 show wpAny _ A.in1 (do
  let x←reFound (.ref ma)
  ret (← reGroupText x (← reGroupNumber x (.str "flags" u)) .none)) _ E s
 unfold reFound
 refine wpAny_bind (wpAny_bind (wpAny_fieldsOf m1 rfl ?_))
 delta reRawItems seqItems?
 refine wpAny_bind (wpAny_bind (wpAny_bind (wpAny_load (o:=pV st hd q e) m2 (wpAny_pure (wpAny_pure (wpAny_pure ?_))))))
 have hsp:Array.map reRawOf ((some ([rawInt (st:Int),rawInt (hd:Int),rawInt (q:Int),rawInt (e:Int)].toArray)).getD #[]) = #[(st:Int),hd,q,e]:=by
  show Array.map reRawOf #[rawInt (st:Int),rawInt (hd:Int),rawInt (q:Int),rawInt (e:Int)]=_
  simp [reRawOf,rawInt]
 rw [hsp]
 unfold reGroupNumber
 refine wpAny_bind (wpAny_bind ?_)
 show wpAny _ A.in1 (pure none:Sem (Option Int)) _ E s
 refine wpAny_pure ?_
 dsimp only
 refine wpAny_ite_false (decide_eq_false (show ¬(none:Option Int).isSome=true from by decide)) ?_
 refine wpAny_bind (wpAny_specialOf (name:=Str.ofString "__index__") (typeIs_str _ _ _) xZ ?_)
 refine wpAny_ite_false (decide_eq_false (show ¬(none:Option Value).isSome=true from by decide)) ?_
 obtain ⟨o,vs,c,oc,items,k,e1,e2,e3,e4,e5,e6,r⟩:=Pt.obj
 have l1:=B.topk _ _ e1 Pt.tb
 refine wpAny_bind ?_
 show wpAny _ A.in1 (fieldsOf (.ref p)) _ E s
 refine wpAny_fieldsOf l1 e4 ?_
 rw [e6]
 obtain ⟨f,t1,hm,hf⟩:=N.map s.heap fun o e=>B.topk _ _ e N.tb
 refine wpAny_bind (wpAny_dictGet_of (knd:=strKind W.prog W.w) (k:="flags") (by show Value.isStrOf "flags" (.str "flags" u)=true; simp [Value.isStrOf]) hm ?_)
 rw [hf]
 refine wpAny_bind (wpAny_pure (wpAny_bind (wpAny_pure ?_)))
 split
 ·rename_i hh
  exact absurd hh (by decide:¬(decide ((1:Int)<0)||decide (2*(1:Int)>=((4:Nat):Int)))=true)
 refine wpAny_pure ?_
 unfold reGroupText
 have s2:(#[reRawOf (rawInt (st:Int)),reRawOf (rawInt (hd:Int)),reRawOf (rawInt (q:Int)),reRawOf (rawInt (e:Int))]:Array Int) = #[(st:Int),hd,q,e]:=rfl
 show wpAny _ A.in1 ((if (decide ((q:Int)<0)||decide ((e:Int)<0))=true then pure .none else do
  let (text,kind)←reTextOf (.bytes b t)
  reSlice text kind (q:Int).toNat (e:Int).toNat)>>=_) _ E _
 rw [if_neg (by simp)]
 have htx:reTextOf (.bytes b t)=pure (b.map (·.toNat),1):=by
  unfold reTextOf
  show (Builtin.Bytes.bufferQuiet? "_sre" (.bytes b t)>>=_)=_
  rw [PySem.W.KBy.quiet_eq]
  rfl
 rw [htx]
 refine wpAny_bind (wpAny_bind (wpAny_pure ?_))
 show wpAny _ A.in1 (mkBytes (((b.map (·.toNat)).extract (q:Int).toNat (e:Int).toNat).map (·.toUInt8))) _ E _
 rw [Int.toNat_natCast,Int.toNat_natCast]
 refine wpAny_mkBytes (wpAny_pure ⟨_,rfl,h _ _⟩) ?_
 rw [Array.size_map,sizeLine_eq,Array.size_extract,Array.size_map]
 exact Nat.le_trans (Nat.sub_le _ _) (Nat.le_trans (Nat.min_le_right _ _) (Nat.le_trans hz (by decide)))
end
section
variable {W:Wd} {C:Cx} {n:Nat} {ρ ρ':aW} {P:Fl->aW->Prop}
theorem St.storeRaw {A:Around} {E:Value->Shared->Prop} {s:Shared} {g:Gh} (S:St W C ρ s g) {x:Str} {v:Value} {os:Gh} (hp:Put x (some (.raw v os)) ρ ρ') (ho:∀p∈os,p∈g/\sP p.2=true) {Q:Unit->Shared->Prop}
  (hQ:∀s',St W C ρ' s' g->jG C.env.locals s s'->Q () s') {M:Model}:wpAny M A (storeName C.env x v) Q E s:=
 S.storeV hp (fun _ hh _=>⟨hh,ho⟩) (fun _ _ _ h=>nomatch h) hQ
noncomputable abbrev x8 (b:Array UInt8) (mo:Option Bd):aW:=[("resp",some (.val (.bytes b))),("mo",mo)]
noncomputable def oU (b:Array UInt8):Array Nat:=b.map (·.toNat)
theorem HO {p d:Addr} {q apos pos r mp sp:Pos} {b:Array UInt8} (hm:W.mg "Flags" = some (.ref p)) (hk:C.env.kindOf "Flags" = some .globalImplicit) (Pt:PatAt W p o5 1 1 (.ref d)) (hz:b.size<=1000) {fr:Option Nat} (hr:gY (oU b) fr) (hline:autoParam ((apos.endLine==pos.line)=true) Mine.dG._auto_1)
  (hs:autoParam (∀env,swapsWith (.Call (.Attribute (.Name "Flags" q) "match" apos) [.Name "resp" r] [] pos) (some (.Name "mo" mp)) sp.line env=pure false) Mine.aA._auto_1) :
  Ex W C n (x8 b none) (.Assign [.Name "mo" mp] (.Call (.Attribute (.Name "Flags" q) "match" apos) [.Name "resp" r] [] pos) sp) fun fl r'=>fl=.next/\match fr with
   | none=>r'=x8 b (some (.val .none))
   | some q=>∃ma ta tk li st hd,r'=x8 b (some (.raw (.ref ma) [(ma,u8 b tk p (oU b).size li ta),(ta,pV st hd (q+7) (q+7+rH (oU b) q))])):=fun A s g E R S=>by
 revert hm hk Pt hz hr hline hs R S;revert W C n p d q apos pos r mp sp b fr A s g E;refine no_implicit_lambda%(hK10 ?_);generalize (HK10 _).1=W,(HK10 _).2.1=C,(HK10 _).2.2.1=n,(HK10 _).2.2.2.1=p,(HK10 _).2.2.2.2.1=d,(HK10 _).2.2.2.2.2.1=q,(HK10 _).2.2.2.2.2.2.1=apos,(HK10 _).2.2.2.2.2.2.2.1=pos,(HK10 _).2.2.2.2.2.2.2.2.1=r,(HK10 _).2.2.2.2.2.2.2.2.2=mp;refine no_implicit_lambda%(hK7 ?_);generalize (HK7 _).1=sp,(HK7 _).2.1=b,(HK7 _).2.2.1=fr,(HK7 _).2.2.2.1=A,(HK7 _).2.2.2.2.1=s,(HK7 _).2.2.2.2.2.1=g,(HK7 _).2.2.2.2.2.2=E;intro hm hk Pt hz hr hline hs R S
 refine wpAny_Assign_Name (wpAny_Call_method_lateS rfl rfl hline (jA S hm hk (rfl) ?_)) (hs _)
 obtain ⟨o,vs,c,oc,items,k,e1,e2,e3,e4,r1⟩:=id Pt.obj
 have l1:=S.base.topk _ _ e1 Pt.tb
 refine ⟨"re.Pattern","re.Pattern.match",tO,j9,r4,⟨o,l1,e2⟩,fun a ha=>by cases ha; exact ⟨o,l1,e3⟩,?_⟩
 refine callWith_builtin rfl (evalArgs_plain ?_)
 have qq:=(aA (e:=.Name "resp" r) (aC (W:=W) (C:=C) (n:=n) (ρ:=x8 b none) .head) aD) A s g E pos R S
 refine wpAny_mono qq (fun us s₁ hq=>?_) fun _ _ e=>e
 obtain ⟨g₁,x₁,hM⟩:=hq
 have S1:=S.step x₁
 refine qK (fun v hM=>?_) hM
 refine kG (fun t=>?_) hM
 ··skip
   refine wpAny_call_entry j9 ⟨o,S1.base.topk _ _ e1 Pt.tb,e2⟩ oY ?_ (qE _ _)
   show wpAny _ A.in1 (do let t'←Builtin.Re.reTarget "re.Pattern.match" "match" ⟨[.ref p,.bytes b t],[]⟩; Builtin.Re.reAnswer t' (Sre.forMatch t'.code t'.text t'.groups t'.pos t'.lim false false)) _ E s₁
   have htx:Builtin.Re.reTextOf (.bytes b t)=pure (oU b,1):=by
    unfold Builtin.Re.reTextOf
    show (Builtin.Bytes.bufferQuiet? "_sre" (.bytes b t)>>=_)=_
    rw [PySem.W.KBy.quiet_eq]
    rfl
   have hz':(oU b).size<=1000:=by unfold oU; rw [Array.size_map]; exact hz
   refine wpAny_bind (s8 S1.base Pt htx ⟨.inr rfl,fun _=>PySem.W.KBy.isInstance_eq⟩ (by lia) ?_)
   obtain ⟨N,hN,ho⟩:=F7 hz' hr
   delta Builtin.Re.reAnswer; dsimp only
   cases fr with
   | none =>
    refine wpAny_bind (D8 N hN (b:=false) ho ?_)
    exact wpAny_pure ⟨_,rfl,S1.store (by exact aF 1 rfl rfl) .none fun s' S' _=>⟨.next,_,g₁,⟨rfl,rfl⟩,S',x₁.sub,trivial⟩⟩
   | some q =>
    have ho:Done _ q (rH (oU b) q):=ho
    refine wpAny_bind (D8 N hN (b:=true) ho.out ?_)
    dsimp only
    generalize hmm:a8 N (Sre.forMatch o5 (oU b) 1 0 (oU b).size false false)=m at ho
    have hs1:uE 1 m=false:=by
     unfold uE
     show (([0]:List Nat).any _)=false
     rw [List.any_cons,List.any_nil,Bool.or_false]
     rw [ho.m0,ho.m1]
     simp
    have hs2:iQ 1 m=[rawInt ((q+7:Nat):Int),rawInt ((q+7+rH (oU b) q:Nat):Int)]:=by
     unfold iQ
     show (([0]:List Nat).flatMap _)=_
     rw [List.flatMap_cons,List.flatMap_nil,List.append_nil]
     rw [ho.lm,if_pos (by decide),ho.m0,ho.m1]
    refine wpAny_bind (oM hs1 (by decide) fun h' hk h1 h2=>wpAny_pure ⟨_,rfl,?_⟩)
    rw [hs2] at h2
    have x₂:Ext W s₁ g₁ { s₁ with heap:=h' } ([(s₁.heap.objs.size+1,u8 b t p (oU b).size m.lastindex s₁.heap.objs.size),(s₁.heap.objs.size,pV m.start m.handed (q+7) (q+7+rH (oU b) q))]++g₁):=Ext.of_new (tk:=s₁.toks) _ S1.base hk fun z hz=>by
     rcases List.mem_cons.mp hz with rfl|hz
     ·refine ⟨h1,?_⟩
      cases q:s₁.heap.get? (s₁.heap.objs.size+1) with
      | none=>rfl
      | some o=>exact absurd (Heap.lt_size q) (Nat.not_lt.mpr (Nat.le_succ _))
     ·rw [List.mem_singleton.mp hz]
      exact ⟨h2,get?_size _⟩
    refine (S1.step x₂).storeRaw (os:=[(s₁.heap.objs.size+1,u8 b t p (oU b).size m.lastindex s₁.heap.objs.size),(s₁.heap.objs.size,pV m.start m.handed (q+7) (q+7+rH (oU b) q))]) (by exact aF 1 rfl rfl) (fun z hz=>⟨List.mem_append.mpr (.inl hz),?_⟩) fun s' S' _=>⟨.next,_,_,⟨rfl,_,_,_,_,_,_,rfl⟩,S',fun z hz=>x₂.sub z (x₁.sub z hz),trivial⟩
    rcases List.mem_cons.mp hz with rfl|hz
    ·rfl
    ·rw [List.mem_singleton.mp hz]; rfl
noncomputable def yC (b:Array UInt8):Option Nat->List Dat
 | none=>[]
 | some q=>(jH (sM b (q+7) (q+7+rH (oU b) q))).map .bytes
theorem AS {s:Shared} {g:Gh} (S:St W C ρ s g) {x:Str} {v:Value} {os:Gh} (h:Has ρ x (.raw v os)):eT C.env s.heap x v/\∀p∈os,p∈g:=⟨(S.vars _ _ h.mem).1,fun p hp=>((S.vars _ _ h.mem).2 p hp).1⟩
theorem uM {f p d:Addr} {b:Array UInt8} {fr:Option Nat} (D:DefAt W f (aT 4) ["resp"]) (G:Glb W) (hm:W.mg "Flags" = some (.ref p)) (Pt:PatAt W p o5 1 1 (.ref d)) (N:NamesAt W d) (hz:b.size<=1000) (hr:gY (oU b) fr) :
  Fn W (n+2) f [.bytes b] (.tuple (yC b fr)):=by
 revert W n f p d b fr;refine no_implicit_lambda%(hK7 ?_);generalize (HK7 _).1=W,(HK7 _).2.1=n,(HK7 _).2.2.1=f,(HK7 _).2.2.2.1=p,(HK7 _).2.2.2.2.1=d,(HK7 _).2.2.2.2.2.1=b,(HK7 _).2.2.2.2.2.2=fr;intro D G hm Pt N hz hr
 refine jY (rest:=["mo"]) D (by kernel_rfl) rfl fun C hC hf=>?_
 have kp:C.env.kindOf "Flags" = some .globalImplicit:=aE hC (by kernel_rfl)
 have kt:C.env.kindOf "tuple" = some .globalImplicit:=aE hC (by kernel_rfl)
 refine aP (HO hm kp Pt hz hr) (fun r hr'=>?_) fun fl r hne h=>absurd h.1 hne
 obtain ⟨_,hr'⟩:=hr'
 cases fr with
 | none =>
  have hr':r=x8 b (some (.val .none)):=hr'
  subst hr'
  exact cP (b:=true) (mO (b:=false) (eM (aC (by exact aB 1 rfl)) FD)) (fun _=>⟨bF aD,.inl rfl⟩) fun h=>nomatch h
 | some q =>
  obtain ⟨ma,ta,tk,li,st,hd,rfl⟩:=hr'
  refine bX (b:=false) (mO (b:=true) fun A s g E R S=>?_) rfl ?_
  ·have hq:=AS S (x:="mo") (by exact aB 1 rfl); have hv:=hq.1; have hg:=hq.2
   refine wpAny_isTrue_value (wpAny_Name (bH S.kind hv ?_) (by decide)) rfl
   exact pQ ⟨_,(S.base.gok _ (hg _ List.mem_cons_self)).1,rfl⟩ ⟨rfl,g,Ext.refl S.gok⟩
  ·have hgz:(sM b (q+7) (q+7+rH (oU b) q)).size<=1000:=by
    unfold sM
    rw [Array.size_map,Array.size_extract,Array.size_map]
    exact Nat.le_trans (Nat.sub_le _ _) (Nat.le_trans (Nat.min_le_right _ _) hz)
   have wl:(jH (sM b (q+7) (q+7+rH (oU b) q))).length<=1001:=by
    unfold jH
    split
    ·exact Nat.le_of_ble_eq_true rfl
    ·rw [List.length_map]
     have:=(nR ((sM b (q+7) (q+7+rH (oU b) q)).size+1) ((sM b (q+7) (q+7+rH (oU b) q)).size+1) (sM b (q+7) (q+7+rH (oU b) q)).toList).1
     exact Nat.le_trans this (Nat.succ_le_succ hgz)
   refine cN (E0 G.tuple.1 G.tuple.2 (aA (dJ (fun A s g E R S=>?_) (G9 hgz)) aD) (xN (by rw [List.length_map]; lia)) kt) (.inl rfl)
   obtain ⟨hv,hg⟩:=AS S (x:="mo") (by exact aB 1 rfl)
   refine wpAny_Call_method_lateS rfl rfl rfl (wpAny_Name (bH S.kind hv ?_) (by decide))
   have m1:=(S.base.gok _ (hg _ List.mem_cons_self)).1
   refine ⟨"re.Match","re.Match.group",DB,kB,qA,⟨_,m1,rfl⟩,fun a ha=>by cases ha; exact ⟨_,m1,rfl⟩,?_⟩
   refine callWith_builtin rfl (evalArgs_plain ?_)
   refine wpAny_mono ((aA (W:=W) (C:=C) (n:=n+1) aS aD) A s g E _ R S) (fun us s₁ hq=>?_) fun _ _ e=>e
   obtain ⟨g₁,x₁,hM⟩:=hq
   have S1:=S.step x₁
   refine qK (fun v hM=>?_) hM
   refine cE (fun u=>?_) hM
   ··exact GZ S1.base Pt N (x₁.sub _ (hg _ List.mem_cons_self)) (x₁.sub _ (hg _ (List.mem_cons_of_mem _ List.mem_cons_self))) hz fun k t'=>⟨g₁,x₁.trans (Ext.toks S1.gok),.bytes _ _⟩
end
section
variable {W:Wd} {C:Cx} {n:Nat} {ρ ρ':aW}
structure AccAt (W:Wd) (K:Frag) (T:Addr):Prop where
 inn:K.In W.top
 tb:∀b o,K.lookup b=some o->b∉W.tb
 ga:findIn K (.ref T) "__getattribute__" = some (some (.builtin "list.__getattribute__"))
 gx:findIn K (.ref T) "__getattr__" = some none
 lst:mroIn K T (.type "list")=some true
 obj:mroIn K T (.type "object")=some true
 iter:findIn K (.ref T) "__iter__" = some (some (.builtin "list.__iter__"))
 app:findIn K (.ref T) "append" = some (some (.builtin "list.append"))
theorem AccAt.In {K:Frag} {T:Addr} {s:Shared} {g:Gh} (a:AccAt W K T) (B:Base W s g):K.In s.heap:=fun b o e=>B.topk _ _ (a.inn _ _ e) (a.tb _ _ e)
structure AccO (o:Obj):Prop where
 size:∃t,lookIn "_initial_size" o=some (some (.int 5 t))
 no:∀x∈(["append","push","pop","part_count"]:List Str),lookIn x o=some none
 it:sP o=true
theorem AccO.shadow {o:Obj} (h:AccO o) {x:Str} (hx:x∈(["append","push","pop","part_count"]:List Str)):shadowIn (some o) x=some false:=by
 unfold shadowIn
 simp only [h.no x hx]
 rfl
theorem dR {h:Heap} {a T d:Addr} {o:Obj} {vs:Array Value} {m:Nat} (h1:h.get? a=some (cV (some (.ref T,d,o)) vs m)) (h2:h.get? d=some o):PySem.W.InstAt h a (cV (some (.ref T,d,o)) vs m) T (some o):=⟨h1,rfl,rfl,h2⟩
section
variable {K:Frag} {prog:Program} {w:World} {A:Around} {E:Value->Shared->Prop} {s:Shared} {x T:Addr} {ox:Obj} {od:Option Obj} {name:Str}
theorem B2 {id:String} {pl:Sem Bool} {Q:Value×List Value->Shared->Prop} (X:K.In s.heap) (I:PySem.W.InstAt s.heap x ox T od) (hga:findIn K (.ref T) "__getattribute__" = some (some (.builtin "list.__getattribute__"))) (hk:findIn K (.ref T) "__getattr__" = some none)
  (hf:findIn K (.ref T) name=some (some (.builtin id))) (ht:typeOf (.builtin id)=pure (.type "method_descriptor")) (hs:shadowIn od name=some false) (h:Q (.builtin id,[.ref x]) s) :
  wpAny (model prog w) A (getMethod (.ref x) name pl) Q E s:=by
 revert K prog w A E s x T ox od name id pl Q;refine no_implicit_lambda%(hK10 ?_);generalize (HK10 _).1=K,(HK10 _).2.1=prog,(HK10 _).2.2.1=w,(HK10 _).2.2.2.1=A,(HK10 _).2.2.2.2.1=E,(HK10 _).2.2.2.2.2.1=s,(HK10 _).2.2.2.2.2.2.1=x,(HK10 _).2.2.2.2.2.2.2.1=T,(HK10 _).2.2.2.2.2.2.2.2.1=ox,(HK10 _).2.2.2.2.2.2.2.2.2=od;refine no_implicit_lambda%(hK4 ?_);generalize (HK4 _).1=name,(HK4 _).2.1=id,(HK4 _).2.2.1=pl,(HK4 _).2.2.2=Q;intro X I hga hk hf ht hs h
 have hcan:=PySem.canon_list_getattribute
 delta getMethod specialOf
 refine wpAny_bind (wpAny_bind (I.type.here ((looks_findIn X hga).here ?_)))
 dsimp only
 rw [hcan,if_neg (by decide)]
 refine wpAny_bind (wpAny_bind (I.type.here ((looks_findIn X hk).here ?_)))
 refine wpAny_bind (wpAny_bind (I.type.here ((looks_findIn X hf).here ?_)))
 refine wpAny_bind ((Looks.of_pure ht).here ?_)
 refine wpAny_ite_false (decide_eq_false (by decide +kernel)) ?_
 refine wpAny_bind (wpAny_loadPart I.at_ ?_)
 have hd:=I.dict
 cases e:ox.dict with
 | none=>exact wpAny_bind (wpAny_rule (wpAny_pure h))
 | some dx =>
  cases od with
  | none=>rw [e] at hd; exact hd.elim
  | some o =>
   rw [e] at hd
   obtain ⟨r,hq⟩:=Option.map_eq_some_iff.mp hs; have a:=hq.1; have b:=hq.2
   refine wpAny_bind (wpAny_bind (wpAny_loadPart hd ?_))
   rw [nsLook_of a]
   refine wpAny_pure ?_
   rw [b]
   exact wpAny_bind (wpAny_rule (wpAny_pure h))
theorem jO {f:Addr} {pl:Sem Bool} {Q:Value×List Value->Shared->Prop} (X:K.In s.heap) (I:PySem.W.InstAt s.heap x ox T od) (hga:findIn K (.ref T) "__getattribute__" = some (some (.builtin "list.__getattribute__"))) (hk:findIn K (.ref T) "__getattr__" = some none)
  (hf:findIn K (.ref T) name=some (some (.ref f))) (ht:typeIn K (.ref f)=some (.type "function")) (hs:shadowIn od name=some false) (h:Q (.ref f,[.ref x]) s) :
  wpAny (model prog w) A (getMethod (.ref x) name pl) Q E s:=by
 have hcan:=PySem.canon_list_getattribute
 delta getMethod specialOf
 refine wpAny_bind (wpAny_bind (I.type.here ((looks_findIn X hga).here ?_)))
 dsimp only
 rw [hcan,if_neg (by decide)]
 refine wpAny_bind (wpAny_bind (I.type.here ((looks_findIn X hk).here ?_)))
 refine wpAny_bind (wpAny_bind (I.type.here ((looks_findIn X hf).here (wpAny_bind ((looks_typeIn X ht).here ?_)))))
 refine wpAny_ite_false (decide_eq_false (by decide +kernel)) ?_
 refine wpAny_bind (wpAny_loadPart I.at_ ?_)
 have hd:=I.dict
 cases e:ox.dict with
 | none=>exact wpAny_bind (wpAny_rule (wpAny_pure h))
 | some dx =>
  cases od with
  | none=>rw [e] at hd; exact hd.elim
  | some o =>
   rw [e] at hd
   obtain ⟨r,hq⟩:=Option.map_eq_some_iff.mp hs; have a:=hq.1; have b:=hq.2
   refine wpAny_bind (wpAny_bind (wpAny_loadPart hd ?_))
   rw [nsLook_of a]
   refine wpAny_pure ?_
   rw [b]
   exact wpAny_bind (wpAny_rule (wpAny_pure h))
theorem tW {M:Model} (X:K.In s.heap) (I:PySem.W.InstAt s.heap x ox T od) (hl:mroIn K T (.type "list")=some true):Looks M s.heap (isInstance (.ref x) (.type "list")) true:=
 I.type.andThen (looks_mroIn X hl)
theorem y0 {M:Model} {i owner n:String} {self:Value} {rest:List Value} {kw:List (Str×Value)} {Q:Unit->Shared->Prop}
  (hk:builtinKind i=some .method) (hs:splitId i=some (owner,n)) (hi:Looks M s.heap (isInstance self (.type owner)) true) (ha:argsOk i ⟨self::rest,kw⟩) (q:Q () s) :
  wpAny M A (checkBuiltinCall i ⟨self::rest,kw⟩) Q E s:=by
 rw [checkBuiltinCall,hk,hs]
 refine wpAny_bind (hi.here ?_)
 (with_reducible refine wpAny_ite_false ?_ ?_; focus (first|rfl|decide|(simp; done)))
 cases hsig:Manifest.signature? i with
 | none=>exact wpAny_pure q
 | some sig =>
  simp only [argsOk,hsig] at ha
  have h2:Bind.checkArgs i sig ⟨self::rest,kw⟩=pure ():=ha
  show wpAny M A (Bind.checkArgs i sig ⟨self::rest,kw⟩) Q E s
  rw [h2]; exact wpAny_pure q
theorem iI {i n:String} {Bi:Builtin} {rest:List Value} {Q:Value->Shared->Prop} (hk:builtinKind i=some .method\/builtinKind i=some .slot) (hs:splitId i=some ("list",n)) (hp:plainId i=true) (hb:entryFor table i=some Bi)
  (hi:Looks (model prog w) s.heap (isInstance (.ref x) (.type "list")) true) (ha:argsOk i ⟨.ref x::rest,[]⟩)
  (hc:wpAny (model prog w) A.in1 (Bi ⟨.ref x::rest,[]⟩) (fun fin s'=>∃v,fin=.done (.ret v)/\Q v s') E s):wpAny (model prog w) A (call (.builtin i) (.ref x::rest)) Q E s:=by
 have go:wpAny (model prog w) A.in1 (Bi ⟨.ref x::rest,[]⟩) (fun fin s'=>match fin with
   | .done f=>(match (Except.ok f:Result) with | .ok (.ret v)=>Q v s' | .ok _=>False | .error e=>E e s')
   | .again c'=>c'.quiet=true/\codeAny (model prog w) A c' (fun r s'=>match r with | .ok (.ret v)=>Q v s' | .ok _=>False | .error e=>E e s') s') E s:=
  wpAny_mono hc (fun fin s' ⟨v,e,q⟩=>by subst e; exact q) fun _ _ z=>z
 refine wpAny_call (codeAny_call_builtin hp hb ?_)
 rcases hk with hk|hk
 ·exact y0 hk hs hi ha go
 ·exact check_slot hk hs hi ha go
theorem yF {v:Value} {expr:Bool} {Q:Value->Shared->Prop} (X:K.In s.heap) (I:PySem.W.InstAt s.heap x ox T od) (hga:findIn K (.ref T) "__getattribute__" = some (some (.builtin "list.__getattribute__"))) (hgx:findIn K (.ref T) "__getattr__" = some none)
  (hl:mroIn K T (.type "list")=some true) (hf:findObj K T od name=some (.value v)) (hh:handedIn v=true) (h:Q v { s with toks:=s.toks+1 }):wpAny (model prog w) A (getAttr (.ref x) name expr) Q E s:=by
 revert K prog w A E s x T ox od name v expr Q;refine no_implicit_lambda%(hK10 ?_);generalize (HK10 _).1=K,(HK10 _).2.1=prog,(HK10 _).2.2.1=w,(HK10 _).2.2.2.1=A,(HK10 _).2.2.2.2.1=E,(HK10 _).2.2.2.2.2.1=s,(HK10 _).2.2.2.2.2.2.1=x,(HK10 _).2.2.2.2.2.2.2.1=T,(HK10 _).2.2.2.2.2.2.2.2.1=ox,(HK10 _).2.2.2.2.2.2.2.2.2=od;refine no_implicit_lambda%(hK4 ?_);generalize (HK4 _).1=name,(HK4 _).2.1=v,(HK4 _).2.2.1=expr,(HK4 _).2.2.2=Q;intro X I hga hgx hl hf hh h
 obtain ⟨hp,g,d,t,os⟩:=s
 have L0:=I.type (M:=model prog w)
 have L1:=looks_findIn (M:=model prog w) X hga
 have L2:=looks_findIn (M:=model prog w) X hgx
 have L3:=looks_find (M:=model prog w) X I hf
 have hi:=tW (M:=model prog w) X I hl
 delta getAttr getAttrBy
 refine wpAny_bind (wpAny_mkText (wpAny_holding (wpAny_bind (L0.at (wpAny_bind (L1.at ?_))))))
 show wpAny _ _ (getAttrByItsOwn (.ref x) (.str name t) (.ref T) (.builtin "list.__getattribute__") true expr) _ _ _
 delta getAttrByItsOwn hookBefore callGetattribute boundAndCalled
 refine wpAny_bind ?_
 refine L2.at ?_
 refine wpAny_bind (wpAny_attempt (wpAny_holding ?_))
 rw [show (expr&&onTheHeap (.builtin "list.__getattribute__"))=false from by cases expr<;>rfl,if_neg (by decide)]
 refine wpAny_bind (wpAny_of_eq (PySem.F.slot_list_getattribute.bind _) ?_)
 refine wpAny_mono (Q:=fun u s'=>u=v/\s'=⟨hp,g,d,t+1,os⟩) (E:=fun _ _=>False)
  (iI (i:="list.__getattribute__") (n:="__getattribute__") (.inr (by decide +kernel)) (by decide +kernel) PySem.F.slot_list_getattribute.plain PySem.F.entry_list_ga hi (PySem.F.args_list_getattribute_2 _ _) ?_) (fun u s' hv=>?_) fun _ _ z=>z.elim
 ·unfold Builtin.«object.__getattribute__»
  refine wpAny_bind (wpAny_of_eq (a:=(.ref x,[.str name t])) (by kernel_rfl) ?_)
  refine wpAny_bind (wpAny_pure (wpAny_bind (L0.at (wpAny_bind (L3.at ?_)))))
  exact wpAny_pure ⟨v,rfl,rfl,rfl⟩
 ·obtain ⟨rfl,rfl⟩:=hv
  show wpAny _ _ (handedOut u) _ _ _
  rw [handedOut_of hh]; exact wpAny_pure h
theorem zH {a:Addr} {ob:Obj} {items:Array Value} {m:Nat} {v:Value} {Q:Value->Shared->Prop} (ho:s.heap.get? a=some ob) (hd:ob.data=.seq items m) (hz:items.size<=sizeLine)
  (hq:Q .none { s with heap:=s.heap.update a (Obj.mapSeq fun xs=>xs.push v) }):wpAny (model prog w) A (Builtin.«list.append» ⟨[.ref a,v],[]⟩) (fun fin s'=>∃v',fin=.done (.ret v')/\Q v' s') E s:=by
 show wpAny _ _ (updateSeq a (fun xs=>xs.push v)>>=fun _=>ret .none) _ _ s
 exact wpAny_bind (wpAny_updateSeq ho hd (wpAny_pure ⟨_,rfl,hq⟩) hz (by show (items.push v).size<=_; rw [Array.size_push]; lia))
end
theorem nG {h:Heap} {a:Addr} {kk:Kd} {vs:Array Value} {k:Nat} (e:h.get? a=some (cV kk vs k)) (f:Array Value->Array Value):∃k',(h.update a (Obj.mapSeq f)).get? a=some (cV kk (f vs) k')/\Heap.ExtBut a h (h.update a (Obj.mapSeq f)):=by
 cases kk with
 | none=>exact kQ e f
 | some p =>
  obtain ⟨c,d,o⟩:=p
  have e':h.get? a=some { cls:=c,dict:=some d,data:=.seq vs k }:=e
  exact ⟨(if (f vs).size==vs.size then k else k+1),Heap.get?_update_self (Obj.mapSeq f) e' rfl,(Heap.SameBut.update ..).extBut⟩
end
end
section
open PySem PySem.W PySem.Calls PyProof.Rows PySem.SeqAt Builtin
section
variable {W:Wd} {C:Cx} {n:Nat} {ρ ρ':aW}
section
variable {K:Frag} {prog:Program} {w:World} {A:Around} {E:Value->Shared->Prop} {s:Shared} {x T:Addr}
theorem EI {id:String} {Q:Fin->Shared->Prop} (hid:id = "list.__len__" \/ id = "list.__init__") (hi:Looks (model prog w) s.heap (isInstance (.ref x) (.type "list")) true)
  (hq:Q (.done (.ret (.ref s.heap.objs.size))) { s with heap:=s.heap.push { cls:=.type "method-wrapper",data:=.fields #[.builtin id,.ref x] } }) :
  wpAny (model prog w) A (Builtin.«wrapper_descriptor.__get__» ⟨[.builtin id,.ref x,.ref T],[]⟩) Q E s:=by
 rcases hid with rfl|rfl
 ·unfold Builtin.«wrapper_descriptor.__get__»
  refine wpAny_bind (wpAny_of_eq (a:=(.builtin "list.__len__",some (.ref x),some (.ref T))) (by kernel_rfl) ?_)
  show wpAny _ _ ((pure (("__len__":Str),Value.type "list")>>=fun p=>isInstance (.ref x) p.2>>=_)>>=_) _ _ s
  refine wpAny_bind (wpAny_bind (wpAny_pure (wpAny_bind (hi.here ?_))))
  exact wpAny_pure (wpAny_bind (wpAny_newObj_type (wpAny_pure hq)))
 ·unfold Builtin.«wrapper_descriptor.__get__»
  refine wpAny_bind (wpAny_of_eq (a:=(.builtin "list.__init__",some (.ref x),some (.ref T))) (by kernel_rfl) ?_)
  show wpAny _ _ ((pure (("__init__":Str),Value.type "list")>>=fun p=>isInstance (.ref x) p.2>>=_)>>=_) _ _ s
  refine wpAny_bind (wpAny_bind (wpAny_pure (wpAny_bind (hi.here ?_))))
  exact wpAny_pure (wpAny_bind (wpAny_newObj_type (wpAny_pure hq)))
theorem L4 {Q:Fin->Shared->Prop} (hi:Looks (model prog w) s.heap (isInstance (.ref x) (.type "list")) true)
  (hq:Q (.done (.ret (.ref s.heap.objs.size))) { s with heap:=s.heap.push { cls:=.type "builtin_function_or_method",data:=.fields #[.builtin "list.pop",.ref x] } }) :
  wpAny (model prog w) A (Builtin.«method_descriptor.__get__» ⟨[.builtin "list.pop",.ref x,.ref T],[]⟩) Q E s:=by
 unfold Builtin.«method_descriptor.__get__»
 refine wpAny_bind (wpAny_of_eq (a:=(.builtin "list.pop",some (.ref x),some (.ref T))) (by kernel_rfl) ?_)
 dsimp only
 rw [show Manifest.toldItsClass.contains "list.pop" = false by decide +kernel]
 show wpAny _ _ (pure PUnit.unit>>=fun _=>((pure (("pop":Str),Value.type "list")>>=fun p=>isInstance (.ref x) p.2>>=_)>>=_)) _ _ s
 refine wpAny_bind (wpAny_pure (wpAny_bind (wpAny_bind (wpAny_pure (wpAny_bind (hi.here ?_))))))
 exact wpAny_pure (wpAny_bind (wpAny_newObj_type (wpAny_pure hq)))
noncomputable abbrev fL (ty id:String) (x:Addr):Obj:={ cls:=.type ty,data:=.fields #[.builtin id,.ref x] }
theorem HX {h:Heap} {gs:Array GenState} {dr:Drawn} {t:Nat} {os:OsState} {so D:Addr} {l₀ l:List Value} {name:Str} {tk:Tok} {Q:Fin->Shared->Prop} {id ty bty gid:String} {Bg:Builtin}
  (hso:h.get? so=some { cls:=.type "super",dict:=none,data:=.fields #[.ref D,.ref x,.ref T],slots:=#[] }) (hno:Looks (model prog w) h (opaqueClassAbove (.ref T)) none)
  (hC:Looks (model prog w) h (mroOf (.ref T)) l₀) (hl:(l₀.dropWhile (· != .ref D)).drop 1=l) (X:K.In h)
  (hf:alongIn K name l=some (some (.builtin id))) (hty:typeOf (.builtin id)=pure (.type ty)) (sg:Slot ty "__get__" gid) (eg:entryFor table gid=some Bg) (ag:∀a b c,argsOk gid ⟨[a,b,c],[]⟩)
  (run:∀(A:Around) (E:Value->Shared->Prop) (Q:Fin->Shared->Prop),Q (.done (.ret (.ref h.objs.size))) ⟨h.push (fL bty id x),gs,dr,t,os⟩->wpAny (model prog w) A (Bg ⟨[.builtin id,.ref x,.ref T],[]⟩) Q E ⟨h,gs,dr,t,os⟩)
  (hxC:x≠T) (hn:(name==("__class__":Str))=false)
  (hq:Q (.done (.ret (.ref h.objs.size))) ⟨h.push (fL bty id x),gs,dr,t,os⟩) :
  wpAny (model prog w) A (Builtin.«super.__getattribute__» ⟨[.ref so,.str name tk],[]⟩) Q E ⟨h,gs,dr,t,os⟩:=by
 revert K prog w A E x T h gs dr t os so D l₀ l name tk Q id ty bty gid Bg;refine no_implicit_lambda%(hK10 ?_);generalize (HK10 _).1=K,(HK10 _).2.1=prog,(HK10 _).2.2.1=w,(HK10 _).2.2.2.1=A,(HK10 _).2.2.2.2.1=E,(HK10 _).2.2.2.2.2.1=x,(HK10 _).2.2.2.2.2.2.1=T,(HK10 _).2.2.2.2.2.2.2.1=h,(HK10 _).2.2.2.2.2.2.2.2.1=gs,(HK10 _).2.2.2.2.2.2.2.2.2=dr;refine no_implicit_lambda%(hK10 ?_);generalize (HK10 _).1=t,(HK10 _).2.1=os,(HK10 _).2.2.1=so,(HK10 _).2.2.2.1=D,(HK10 _).2.2.2.2.1=l₀,(HK10 _).2.2.2.2.2.1=l,(HK10 _).2.2.2.2.2.2.1=name,(HK10 _).2.2.2.2.2.2.2.1=tk,(HK10 _).2.2.2.2.2.2.2.2.1=Q,(HK10 _).2.2.2.2.2.2.2.2.2=id;refine no_implicit_lambda%(hK4 ?_);generalize (HK4 _).1=ty,(HK4 _).2.1=bty,(HK4 _).2.2.1=gid,(HK4 _).2.2.2=Bg;intro hso hno hC hl X hf hty sg eg ag run hxC hn hq
 have hlk:=sg.lookup
 have hne:(Value.ref x==Value.ref T)=false:=by simp [hxC]
 have hTf:(⟨h,gs,dr,t,os⟩:Shared).TypeIs (.builtin id) ty:=hty
 have hdt:({ cls:=.type "super",dict:=none,data:=.fields #[.ref D,.ref x,.ref T],slots:=#[] }:Obj).data=.fields #[.ref D,.ref x,.ref T]:=rfl
 have f0:(#[.ref D,.ref x,.ref T]:Array Value)[0]? = some (.ref D):=rfl
 have f1:(#[.ref D,.ref x,.ref T]:Array Value)[1]? = some (.ref x):=rfl
 have f2:(#[.ref D,.ref x,.ref T]:Array Value)[2]? = some (.ref T):=rfl
 delta Builtin.«super.__getattribute__»; dsimp only
 repeat (first
  | (with_reducible refine wpAny_field hso hdt f0 ?_)|(with_reducible refine wpAny_field hso hdt f1 ?_)|(with_reducible refine wpAny_field hso hdt f2 ?_)
  | (with_reducible refine ks_wpAny_notOpaque hno ?_)
  | (with_reducible refine Looks.at hC ?_; rw [hl])
  | (refine ks_forIn_along X (fun _ _=>rfl) rfl ?_ hf)
  | (with_reducible refine wpAny_typeOf hTf ?_)
  | (with_reducible refine wpAny_call_entry sg hTf eg ?_ (ag _ _ _))
  | (rw [hne,if_neg (by decide)])
  | (refine run _ _ _ ?_)
  | (with_reducible refine ⟨_,rfl,?_⟩)
  | (with_reducible refine wpAny_ite_false ?_ ?_; focus (first|rfl|(simp [hn,hne]; done)))
  | wp_step
  | dsimp only)
 all_goals exact hq
theorem C7 {h:Heap} {gs:Array GenState} {dr:Drawn} {t:Nat} {os:OsState} {so D:Addr} {l₀ l:List Value} {name:Str} {pl:Sem Bool} {Q:Value×List Value->Shared->Prop} {id ty bty gid:String} {Bg:Builtin}
  (hso:h.get? so=some { cls:=.type "super",dict:=none,data:=.fields #[.ref D,.ref x,.ref T],slots:=#[] }) (hno:Looks (model prog w) h (opaqueClassAbove (.ref T)) none)
  (hC:Looks (model prog w) h (mroOf (.ref T)) l₀) (hl:(l₀.dropWhile (· != .ref D)).drop 1=l) (X:K.In h)
  (hf:alongIn K name l=some (some (.builtin id))) (hty:typeOf (.builtin id)=pure (.type ty)) (sg:Slot ty "__get__" gid) (eg:entryFor table gid=some Bg) (ag:∀a b c,argsOk gid ⟨[a,b,c],[]⟩)
  (run:∀(A:Around) (E:Value->Shared->Prop) (Q:Fin->Shared->Prop),Q (.done (.ret (.ref h.objs.size))) ⟨h.push (fL bty id x),gs,dr,t+1,os⟩->wpAny (model prog w) A (Bg ⟨[.builtin id,.ref x,.ref T],[]⟩) Q E ⟨h,gs,dr,t+1,os⟩)
  (hxC:x≠T) (hn:(name==("__class__":Str))=false)
  (hq:Q (.ref h.objs.size,[]) ⟨h.push (fL bty id x),gs,dr,t+1,os⟩) :
  wpAny (model prog w) A (getMethod (.ref so) name pl) Q E ⟨h,gs,dr,t,os⟩:=by
 have hlk:=F.ks_slot_super_ga.lookup
 have hcan:=F.ks_canon_super_ga
 have hT:∀t',(⟨h,gs,dr,t',os⟩:Shared).TypeIs (.ref so) "super":=fun _=>⟨_,hso,rfl⟩
 unfold getMethod
 refine wpAny_bind (wpAny_specialOf (hT _) hlk ?_)
 show wpAny _ _ (if (Manifest.canonical "super.__getattribute__" != "object.__getattribute__")=true then _ else _) _ _ _
 refine wpAny_ite_true (decide_eq_true hcan) ?_
 delta getAttr getAttrBy
 refine wpAny_bind (wpAny_bind (wpAny_mkText (wpAny_holding (wpAny_bind (wpAny_typeOf (hT _) (wpAny_bind (wpAny_of_eq hlk ?_)))))))
 show wpAny _ _ (getAttrByItsOwn (.ref so) (.str name t) (.type "super") (.builtin "super.__getattribute__") true false) _ _ _
 delta getAttrByItsOwn hookBefore callGetattribute boundAndCalled
 refine wpAny_bind (wpAny_of_eq (show (if onTheHeap (.type "super") then typeLookup (.type "super") "__getattr__" else pure none)=pure none from rfl) ?_)
 refine wpAny_bind (wpAny_attempt (wpAny_holding ?_))
 refine wpAny_bind (wpAny_of_eq (F.ks_slot_super_ga.bind _) ?_)
 refine wpAny_mono (Q:=fun v s'=>v=.ref h.objs.size/\s'=⟨h.push (fL bty id x),gs,dr,t+1,os⟩) (E:=fun _ _=>False)
  (wpAny_call_entry F.ks_slot_super_ga (hT _) F.ks_entry_super_ga (HX hso hno hC hl X hf hty sg eg ag run hxC hn ⟨_,rfl,rfl,rfl⟩) (F.ks_gaArgs_super _ _)) (fun v s' hv=>?_) fun _ _ z=>z.elim
 obtain ⟨rfl,rfl⟩:=hv
 exact wpAny_pure (wpAny_pure hq)
end
end
section
variable {W:Wd} {C:Cx} {n:Nat} {ρ ρ':aW}
section
variable {K:Frag} {prog:Program} {w:World} {A:Around} {E:Value->Shared->Prop} {s:Shared} {x T:Addr}
theorem uU {q:Addr} {bty id:String} {rest:List Value} {Q:Value->Shared->Prop} {Bi:Builtin} (hq:s.heap.get? q=some (fL bty id x)) (hb:bty = "builtin_function_or_method" \/ bty = "method-wrapper") (hp:plainId id=true) (eb:entryFor table id=some Bi)
  (chk:∀(A:Around) (E:Value->Shared->Prop) (Q:Unit->Shared->Prop),Q () s->wpAny (model prog w) A (checkBoundCall id ⟨.ref x::rest,[]⟩) Q E s)
  (hc:wpAny (model prog w) A.in1 (Bi ⟨.ref x::rest,[]⟩) (fun fin s'=>∃v,fin=.done (.ret v)/\Q v s') E s):wpAny (model prog w) A (call (.ref q) rest) Q E s:=by
 revert prog w A E s x q bty id rest Q Bi;refine no_implicit_lambda%(hK10 ?_);generalize (HK10 _).1=prog,(HK10 _).2.1=w,(HK10 _).2.2.1=A,(HK10 _).2.2.2.1=E,(HK10 _).2.2.2.2.1=s,(HK10 _).2.2.2.2.2.1=x,(HK10 _).2.2.2.2.2.2.1=q,(HK10 _).2.2.2.2.2.2.2.1=bty,(HK10 _).2.2.2.2.2.2.2.2.1=id,(HK10 _).2.2.2.2.2.2.2.2.2=rest;refine no_implicit_lambda%(hK2 ?_);generalize (HK2 _).1=Q,(HK2 _).2=Bi;intro hq hb hp eb chk hc
 refine wpAny_call (codeAny_of_tree ?_)
 show wpAny _ A.in1 (callAny (.ref q) ⟨rest,[]⟩) _ _ s
 unfold callAny
 refine wpAny_bind (wpAny_load hq ?_)
 have go:codeAny (model prog w) A (.builtin id ⟨.ref x::rest,[]⟩) (fun r s'=>match r with | .ok (.ret v)=>Q v s' | .ok _=>False | .error e=>E e s') s:=by
  refine codeAny_builtin eb ?_
  rw [Around.under_plainId hp _]
  refine wpAny_mono hc (fun fin s' ⟨v,e,q⟩=>?_) fun _ _ z=>z
  subst e
  exact q
 rcases hb with rfl|rfl
 ·exact wpAny_bind (chk _ _ _ (wpAny_pure ⟨plainId_quiet hp _,go⟩))
 ·exact wpAny_bind (chk _ _ _ (wpAny_pure ⟨plainId_quiet hp _,go⟩))
theorem I8:checkBoundCall "list.__len__" ⟨[.ref x],[]⟩=pure ():=by kernel_rfl
theorem EH:checkBoundCall "list.__init__" ⟨[.ref x],[]⟩=pure ():=by kernel_rfl
noncomputable def popSig:Manifest.Signature:=(Manifest.signature? "list.pop").getD { machinery:=.hand,full:="",short:="",receiver:=.none,params:=[] }
theorem H9:Manifest.signature? "list.pop" = some popSig:=by kernel_rfl
theorem HL (x:Addr):Bind.checkArgs "list.pop" { popSig with full:=s!"{("_Accumulator" : Str).toString}.{Bind.lastOf "list.pop"}" } ⟨[.ref x],[]⟩=pure ():=by kernel_rfl
theorem IE {cd:ClassData} {ox:Obj} {Q:Unit->Shared->Prop} (X:K.In s.heap) (hx:s.heap.get? x=some ox) (hc:ox.cls=.ref T) (hn:notCls ox=true) (hm:mroIn K T (.type "module")=some false) (hcd:clsIn K T=some cd) (hnm:cd.qualname = "_Accumulator") (ht:typeIn K (.ref T)=some (.type "type"))
  (hq:Q () s):wpAny (model prog w) A (checkBoundCall "list.pop" ⟨[.ref x],[]⟩) Q E s:=by
 revert K prog w A E s x T cd ox Q;refine no_implicit_lambda%(hK10 ?_);generalize (HK10 _).1=K,(HK10 _).2.1=prog,(HK10 _).2.2.1=w,(HK10 _).2.2.2.1=A,(HK10 _).2.2.2.2.1=E,(HK10 _).2.2.2.2.2.1=s,(HK10 _).2.2.2.2.2.2.1=x,(HK10 _).2.2.2.2.2.2.2.1=T,(HK10 _).2.2.2.2.2.2.2.2.1=cd,(HK10 _).2.2.2.2.2.2.2.2.2=ox;refine no_implicit_lambda%(hK ?_);generalize HK _=Q;intro X hx hc hn hm hcd hnm ht hq
 have LT:Looks (model prog w) s.heap (typeOf (.ref x)) (.ref T):=hc▸(Looks.ld hx).andThen .now
 obtain ⟨hh,gs,dr,t,os⟩:=s
 unfold checkBoundCall
 rw [H9,show builtinKind "list.pop" = some .method by decide +kernel]
 refine wpAny_ite_false (decide_eq_false (by decide)) ?_
 refine wpAny_bind (wpAny_bind (LT.here ((looks_mroIn X hm).here ?_)))
 rw [show (Manifest.varargsMethods.contains "list.pop" || false)=false by decide +kernel,if_neg (by decide)]
 refine wpAny_bind (ks_wpAny_isType_inst hx (fun c e=>?_) ?_)
 ·unfold notCls at hn; rw [e] at hn; cases hn
 refine wpAny_ite_false (decide_eq_false (by decide)) ?_
 refine wpAny_bind (LT.here ?_)
 refine wpAny_bind ((looks_clsIn X hcd).here ?_)
 refine wpAny_bind ((looks_typeIn X ht).here ?_)
 rw [if_pos (by decide),hnm,HL]
 exact wpAny_pure hq
end
end
section
variable {W:Wd} {C:Cx} {n:Nat} {ρ ρ':aW}
structure MDef (W:Wd) (f:Addr) (fd:FuncData) (body:List Stmt) (cl:List (Str×Addr)):Prop where
 fn:IsFn W f fd
 code:∃c o vs t file tf,fd.code=.ref c/\W.top.get? c=some o/\o.data=.fields vs/\vs[1]? = some (.str fd.qualname t)/\c∉W.tb/\vs[2]? = some (.str file tf)/\((W.prog.main.file:Str)==file)=true
 body:fd.body=.stmts body
 clo:fd.closure=cl
 glob:fd.globals=mainGlobals
 blt:fd.builtins=builtinsNs
 kind:fd.scope.kind=.function
 co:fd.scope.isCoroutine=false
 gen:fd.scope.isGenerator=false
 cells:∀x∈fd.scope.names,x.2≠.cell
theorem MDef.codeRec {f:Addr} {fd:FuncData} {body:List Stmt} {cl:List (Str×Addr)} (D:MDef W f fd body cl) {s:Shared} {g:Gh} (B:Base W s g):s.heap.CodeRec fd.code fd.qualname:=by
 revert D B;revert W f fd body cl s g;refine no_implicit_lambda%(hK7 ?_);generalize (HK7 _).1=W,(HK7 _).2.1=f,(HK7 _).2.2.1=fd,(HK7 _).2.2.2.1=body,(HK7 _).2.2.2.2.1=cl,(HK7 _).2.2.2.2.2.1=s,(HK7 _).2.2.2.2.2.2=g;intro D B
 obtain ⟨c,o,us,t,file,tf,e1,e2,e3,e4,e5,_⟩:=D.code
 exact ⟨c,o,us,t,e1,B.topk _ _ e2 e5,e3,e4⟩
theorem Base.nolimit {s:Shared} {g:Gh} (B:Base W s g):s.heap.NoLimit:=by
 obtain ⟨mc,hmc,hx⟩:=B.wok.lim
 exact ⟨mc,hmc.at' fun o e=>B.topk _ _ e (B.wok.ns_tb (OldK.refl _) hmc),hx⟩
theorem Base.keeps {s:Shared} {g:Gh} (B:Base W s g) {h':Heap} {tk:Tok} (hk:∀b o,s.heap.get? b=some o->h'.get? b=some o):Base W { s with heap:=h',toks:=tk } g:=B.step (Ext.of_keeps B.gok hk)
theorem jB {A:Around} {s:Shared} {g:Gh} {f:Addr} {fd:FuncData} {body:List Stmt} {cl:List (Str×Addr)} {args:List Value} {binds:List (Str×Value)} {R:Result->Shared->Prop} (D:MDef W f fd body cl) (B:Base W s g) (hr:A.depth<recursionLimit)
  (hb:bindArgs fd ⟨args,[]⟩=pure binds) (hloc:∀x∈binds,fd.scope.names.lookup x.1=some .local)
  (h:∀hE L,s.heap.get? L=none->hE.Ns L (fun x=>binds.reverse.lookup x)->(∀b o,s.heap.get? b=some o->hE.get? b=some o) ->
   _root_.PySem.wpAt (model W.prog W.w) (A.deeper (callEnv fd L f)) (.func body (callEnv fd L f)) (execs body (callEnv fd L f)) (fun fl s'=>R (.ok (.ret (match fl with | .ret v=>v|_=>.none))) s')
    (fun e s'=>wpAny (model W.prog W.w) (A.deeper (callEnv fd L f)) (leaving (callEnv fd L f) e) (fun _ s''=>R (.error e) s'') (fun e' s''=>R (.error e') s'') s')
    { s with heap:=hE,toks:=s.toks+binds.length }):codeAny (model W.prog W.w) A (.call (.ref f) ⟨args,[]⟩) R s:=by
 obtain ⟨o,hq⟩:=D.fn.at B; have ho:=hq.1; have hd:=hq.2
 exact ks_codeAny_call_defAt hr ho hd B.nolimit (D.codeRec B) D.body (BindsTo.of_eq hb) D.cells hloc (fun hE hns hk=>h hE _ (get?_size _) hns hk) D.co D.gen D.kind
structure SupAt (W:Wd) (K:Frag) (T cc:Addr):Prop where
 acc:AccAt W K T
 cell:∃oc,W.top.get? cc=some oc/\oc.data=.cell (some (.ref T))
 self:mroIn K T (.ref T)=some true
 cd:∃cd,clsIn K T=some cd/\cd.qualname = "_Accumulator" /\ (cd.mro.dropWhile (· != .ref T)).drop 1=[.type "list",.type "object"]
 typ:typeIn K (.ref T)=some (.type "type")
 mod:mroIn K T (.type "module")=some false
 opq:nsIn K cStatics "thirdparty.any" = some none
 mg:W.mg "super" = none
 mb:W.mb "super" = some (.type "super")
 top:(W.prog.main.scope.names.lookup ("super":Str)).isSome=false
set_option tactic.hygienic true in
theorem tP {K:Frag} {h:Heap} (X:K.In h) {T:Addr} {cd:ClassData} (hc:clsIn K T=some cd):∃oD,h.get? T=some oD/\oD.data=.cls cd:=by
 unfold clsIn at hc
 split at hc
 ·rename_i c d cd' sl ho
  cases hc
  exact ⟨_,X _ _ ho,rfl⟩
 ·cases hc
section
variable {K:Frag} {A:Around} {E:Value->Shared->Prop} {s:Shared} {g:Gh} {x T cc f L:Addr} {fd:FuncData} {body:List Stmt} {ox:Obj}
theorem FC {q:List Stmt} {p0 p1:Pos} {attr:Str} {whole:Sem Value} {ar:Arg} {m:Str->Option Value} {Q:Value->Shared->Prop} (U:SupAt W K T cc) (D:MDef W f fd body [("__class__",cc)]) (B:Base W s g)
  (hns:s.heap.Ns L m) (hp:(fd.params.posonlyargs++fd.params.args).head? = some ar) (hv:m ar.arg=some (.ref x)) (hx:s.heap.get? x=some ox) (hxc:ox.cls=.ref T) (hnc:notCls ox=true)
  (hat:(attr==("__class__":Str))=false) (hks:fd.scope.names.lookup ("super":Str)=some .globalImplicit) (hkc:fd.scope.names.lookup ("__class__":Str)=some .free) (hka:fd.scope.names.lookup ar.arg=some .local)
  (h:∀h',h'.get? s.heap.objs.size=some (ks_superObj T x T)->(∀b o,s.heap.get? b=some o->h'.get? b=some o)->Q (.ref s.heap.objs.size) { s with heap:=h' }) :
  _root_.PySem.wpAt (model W.prog W.w) A (.func q (callEnv fd L f)) (attributeBase (.Call (.Name "super" p0) [] [] p1) attr (callEnv fd L f) whole) Q E s:=by
 revert W K A E s g x T cc f L fd body ox q p0 p1 attr whole ar m Q;refine no_implicit_lambda%(hK10 ?_);generalize (HK10 _).1=W,(HK10 _).2.1=K,(HK10 _).2.2.1=A,(HK10 _).2.2.2.1=E,(HK10 _).2.2.2.2.1=s,(HK10 _).2.2.2.2.2.1=g,(HK10 _).2.2.2.2.2.2.1=x,(HK10 _).2.2.2.2.2.2.2.1=T,(HK10 _).2.2.2.2.2.2.2.2.1=cc,(HK10 _).2.2.2.2.2.2.2.2.2=f;refine no_implicit_lambda%(hK10 ?_);generalize (HK10 _).1=L,(HK10 _).2.1=fd,(HK10 _).2.2.1=body,(HK10 _).2.2.2.1=ox,(HK10 _).2.2.2.2.1=q,(HK10 _).2.2.2.2.2.1=p0,(HK10 _).2.2.2.2.2.2.1=p1,(HK10 _).2.2.2.2.2.2.2.1=attr,(HK10 _).2.2.2.2.2.2.2.2.1=whole,(HK10 _).2.2.2.2.2.2.2.2.2=ar;refine no_implicit_lambda%(hK2 ?_);generalize (HK2 _).1=m,(HK2 _).2=Q;intro U D B hns hp hv hx hxc hnc hat hks hkc hka h
 have X:=U.acc.In B
 obtain ⟨cd,hq⟩:=U.cd; have hcd:=hq.1; have hmro:=hq.2.2
 obtain ⟨oD,hD1,hD2⟩:=tP X hcd
 obtain ⟨of,hof,hofd⟩:=D.fn.at B
 obtain ⟨c,o,us,t,file,tf,e1,e2,e3,e4,e5,e6,e7⟩:=D.code
 obtain ⟨oc,hq⟩:=U.cell; have hoc:=hq.1; have hocd:=hq.2
 have hcc:s.heap.IsCell cc (some (.ref T)):=⟨oc,B.topk _ _ hoc (B.wok.cell_tb (OldK.refl _) ⟨oc,hoc,hocd⟩),hocd⟩
 have hm:s.heap.Ns mainGlobals W.mg:=B.wok.mg.at' fun o e=>B.topk _ _ e (B.wok.ns_tb (OldK.refl _) B.wok.mg)
 have hbl:s.heap.Ns builtinsNs W.mb:=B.wok.mb.at' fun o e=>B.topk _ _ e (B.wok.ns_tb (OldK.refl _) B.wok.mb)
 have ecl:(callEnv fd L f).cells=[(("__class__":Str),cc)]:=D.clo
 refine ks_wpAt_super_base (env:=callEnv fd L f) hks hkc hat rfl hof hofd hp e1 (B.topk _ _ e2 e5) e3 e6 e7 U.top ?_
 refine ks_loadName_global D.kind hks (loadGlobal_builtin (env:=callEnv fd L f) (by show s.heap.Ns fd.globals _; rw [D.glob]; exact hm) U.mg (by show s.heap.Ns fd.builtins _; rw [D.blt]; exact hbl) U.mb ⟨rfl,?_⟩)
 refine wpAny_loadName_free D.kind hkc (by rw [ecl]; rfl) hcc ?_
 refine wpAny_loadName_local D.kind hka hns hv ?_
 obtain ⟨hh,gs,dr,tk,os⟩:=s
 refine ks_wpAny_isType_cls hD1 hD2 ⟨rfl,?_⟩
 refine ks_wpAny_call_super hD1 hD2 hx hxc (fun c e=>?_) (looks_mroIn X U.self) (fun h' e k=>h h' e k)
 unfold notCls at hnc
 rw [e] at hnc
 exact Bool.noConfusion hnc
theorem nJ {pos:Pos} {q:Addr} {bty id:String} {Q:Value->Shared->Prop} {M:Model} (hq:s.heap.get? q=some (fL bty id x)) (hb:bty = "builtin_function_or_method" \/ bty = "method-wrapper") (h:wpAny M A (call (.ref q) []) Q E s) :
  wpAny M A (callWith pos (.ref q) [] [] []) Q E s:=by
 delta callWith; dsimp only
 refine wpAny_bind (wpAny_holding (evalArgs_nil3 (wpAny_bind (wpAny_standAt ?_))))
 refine wpAny_bind (m:=keeperOf (.ref q)) ?_
 unfold keeperOf
 refine wpAny_bind (wpAny_load hq ?_)
 rcases hb with rfl|rfl
 ·dsimp only
  refine wpAny_pure ?_
  exact wpAny_bind (wpAny_mono h (fun r s₂ hr=>wpAny_bind (wpAny_holding (wpAny_point (wpAny_pure hr)))) fun _ _ x=>x)
 ·dsimp only
  refine wpAny_pure ?_
  exact wpAny_bind (wpAny_mono h (fun r s₂ hr=>wpAny_bind (wpAny_holding (wpAny_point (wpAny_pure hr)))) fun _ _ x=>x)
end
end
section
variable {W:Wd} {C:Cx} {n:Nat} {ρ ρ':aW}
section
variable {K:Frag} {A:Around} {E:Value->Shared->Prop} {s:Shared} {g:Gh} {x T cc f L:Addr} {fd:FuncData} {body:List Stmt}
structure PgAt (s:Shared) (x T:Addr) (items:Array Value):Prop where
 obj:∃ox m,s.heap.get? x=some ox/\ox.cls=.ref T/\ox.data=.seq items m
theorem PgAt.keeps {items:Array Value} {h':Heap} {tk:Tok} (p:PgAt s x T items) (hk:∀b o,s.heap.get? b=some o->h'.get? b=some o):PgAt { s with heap:=h',toks:=tk } x T items:=
 let ⟨ox,m,a,b,c⟩:=p.obj; ⟨ox,m,hk _ _ a,b,c⟩
theorem jN {q:List Stmt} {p0 p1 apos pos:Pos} {name:Str} {ar:Arg} {m:Str->Option Value} {Q:Value->Shared->Prop} {items:Array Value} {id ty bty gid:String} {Bg Bi:Builtin}
  (U:SupAt W K T cc) (D:MDef W f fd body [("__class__",cc)]) (B:Base W s g) (hns:s.heap.Ns L m) (hp:(fd.params.posonlyargs++fd.params.args).head? = some ar) (hv:m ar.arg=some (.ref x)) (P:PgAt s x T items)
  (hat:(name==("__class__":Str))=false) (hks:fd.scope.names.lookup ("super":Str)=some .globalImplicit) (hkc:fd.scope.names.lookup ("__class__":Str)=some .free) (hka:fd.scope.names.lookup ar.arg=some .local)
  (hf:alongIn K name [.type "list",.type "object"]=some (some (.builtin id))) (hty:typeOf (.builtin id)=pure (.type ty)) (sg:Slot ty "__get__" gid) (eg:entryFor table gid=some Bg) (ag:∀a b c,argsOk gid ⟨[a,b,c],[]⟩)
  (run:∀(A:Around) (E:Value->Shared->Prop) (Q:Fin->Shared->Prop) (s:Shared),Looks (model W.prog W.w) s.heap (isInstance (.ref x) (.type "list")) true->Q (.done (.ret (.ref s.heap.objs.size))) { s with heap:=s.heap.push (fL bty id x) } ->
   wpAny (model W.prog W.w) A (Bg ⟨[.builtin id,.ref x,.ref T],[]⟩) Q E s)
  (hb:bty = "builtin_function_or_method" \/ bty = "method-wrapper") (hpl:plainId id=true) (eb:entryFor table id=some Bi)
  (chk:∀(A:Around) (E:Value->Shared->Prop) (Q:Unit->Shared->Prop) (s:Shared),Base W s g->PgAt s x T items->Q () s->wpAny (model W.prog W.w) A (checkBoundCall id ⟨[.ref x],[]⟩) Q E s)
  (h:∀(A':Around) h' tk,(∀b o,s.heap.get? b=some o->h'.get? b=some o)->wpAny (model W.prog W.w) A' (Bi ⟨[.ref x],[]⟩) (fun fin s'=>∃v,fin=.done (.ret v)/\Q v s') E { s with heap:=h',toks:=tk })
  (he:autoParam (eval (.Call (.Attribute (.Call (.Name "super" p0) [] [] p1) name apos) [] [] pos) (callEnv fd L f)=(do
   let ov←attributeBase (.Call (.Name "super" p0) [] [] p1) name (callEnv fd L f) (eval (.Call (.Name "super" p0) [] [] p1) (callEnv fd L f))
   standAt apos.atName
   let (f',first)←holding [ov] (getMethod ov name (pure false))
   callWith pos f' first (backTo pos (starEach [] (callEnv fd L f))) [])) Mine.dG._auto_1) :
  _root_.PySem.wpAt (model W.prog W.w) A (.func q (callEnv fd L f)) (eval (.Call (.Attribute (.Call (.Name "super" p0) [] [] p1) name apos) [] [] pos) (callEnv fd L f)) Q E s:=by
 obtain ⟨cd,hq⟩:=U.cd; have hcd:=hq.1; have hmro:=hq.2.2
 obtain ⟨ox,mm,hq⟩:=P.obj; have hx:=hq.1; have hxc:=hq.2.1; have hxd:=hq.2.2
 have hnc:notCls ox=true:=by unfold notCls; rw [hxd]
 refine ks_wpAt_MethodCall (pl:=pure false) ?_ he
 refine FC U D B hns hp hv hx hxc hnc hat hks hkc hka fun hM e₁ k₁=>?_
 have B₁:=B.keeps (tk:=s.toks) k₁
 have P₁:=P.keeps (tk:=s.toks) k₁
 have X1:=U.acc.In B₁
 have hx1:=k₁ _ _ hx
 have hxT:x≠T:=by
  rintro rfl
  obtain ⟨oD,q1,q2⟩:=tP (U.acc.In B) hcd
  rw [hx] at q1; cases q1
  rw [hxd] at q2; cases q2
 have LI:∀h',(∀b o,s.heap.get? b=some o->h'.get? b=some o)->Looks (model W.prog W.w) h' (isInstance (.ref x) (.type "list")) true:=fun h' k =>
  (hxc▸(Looks.ld (k _ _ hx)).andThen .now:Looks (model W.prog W.w) h' (typeOf (.ref x)) (.ref T)).andThen (looks_mroIn (U.acc.In (B.keeps (tk:=s.toks) k)) U.acc.lst)
 refine C7 (h:=hM) (gs:=s.gens) (dr:=s.drawn) (t:=s.toks) (os:=s.os) e₁ (looks_opaque X1 U.opq) ((looks_clsIn X1 hcd).andThen .now) hmro X1 hf hty sg eg ag (fun A' E' Q' hQ=>run A' E' Q' ⟨hM,s.gens,s.drawn,s.toks+1,s.os⟩ (LI _ k₁) hQ) hxT hat ?_
 have k₂:∀b o,s.heap.get? b=some o->(hM.push (fL bty id x)).get? b=some o:=fun b o e=>Heap.get?_push_of_some _ (k₁ b o e)
 have hq2:(hM.push (fL bty id x)).get? hM.objs.size=some (fL bty id x):=Heap.get?_push_size _ rfl
 refine nJ (x:=x) hq2 hb ?_
 refine uU hq2 hb hpl eb (fun A' E' Q' hQ=>chk A' E' Q' _ (B.keeps k₂) (P.keeps k₂) hQ) (h _ _ _ k₂)
end
end
section
variable {W:Wd} {C:Cx} {n:Nat} {ρ ρ':aW}
noncomputable def uF (st:Stmt):Arg:=((uV st).args.head?).getD ⟨"",none,⟨0,0,0,0⟩⟩
structure MAt (W:Wd) (f:Addr) (st:Stmt) (cl:List (Str×Addr)) (ps:List Str):Prop where
 fd:∃fd,MDef W f fd (dW st) cl/\fd.scope=aR st/\fd.params=uV st/\∀vs:List Value,vs.length=ps.length->bindArgs fd ⟨vs,[]⟩=pure (ps.zip vs)
section
variable {K:Frag} {A:Around} {E:Value->Shared->Prop} {s:Shared} {g:Gh} {x T cc f L:Addr} {fd:FuncData} {body:List Stmt} {items:Array Value} {R:Result->Shared->Prop}
theorem IB {M:Model} {ox:Obj} {m:Nat} {Q:Value->Shared->Prop} (hx:s.heap.get? x=some ox) (hd:ox.data=.seq items m) (hq:Q (.int items.size s.toks) { s with toks:=s.toks+1 }) :
  wpAny M A (Builtin.«list.__len__» ⟨[.ref x],[]⟩) (fun fin s'=>∃v,fin=.done (.ret v)/\Q v s') E s:=by
 unfold Builtin.«list.__len__»
 refine wpAny_bind (wpAny_of_eq (a:=(.ref x,[])) (by kernel_rfl) ?_)
 unfold seqSize
 refine wpAny_bind (wpAny_bind (wpAny_loadPart hx ?_))
 rw [hd]
 refine wpAny_pure ?_
 show wpAny _ _ (retInt (items.size:Int)) _ _ s
 unfold retInt
 exact wpAny_bind (wpAny_mkInt (wpAny_pure ⟨_,rfl,hq⟩))
theorem NU (U:SupAt W K T cc) (D:MAt W f (oH 8) [("__class__",cc)] ["self"]) (B:Base W s g) (hr:A.depth<recursionLimit) (P:PgAt s x T items)
  (h:∀h' tk t,(∀b o,s.heap.get? b=some o->h'.get? b=some o)->R (.ok (.ret (.int items.size t))) { s with heap:=h',toks:=tk }):codeAny (model W.prog W.w) A (.call (.ref f) ⟨[.ref x],[]⟩) R s:=by
 revert W K A s g x T cc f items R;refine no_implicit_lambda%(hK10 ?_);generalize (HK10 _).1=W,(HK10 _).2.1=K,(HK10 _).2.2.1=A,(HK10 _).2.2.2.1=s,(HK10 _).2.2.2.2.1=g,(HK10 _).2.2.2.2.2.1=x,(HK10 _).2.2.2.2.2.2.1=T,(HK10 _).2.2.2.2.2.2.2.1=cc,(HK10 _).2.2.2.2.2.2.2.2.1=f,(HK10 _).2.2.2.2.2.2.2.2.2=items;refine no_implicit_lambda%(hK ?_);generalize HK _=R;intro U D B hr P h
 obtain ⟨fd,hq⟩:=D.fd; have D:=hq.1; have esc:=hq.2.1; have epa:=hq.2.2.1; have hb:=hq.2.2.2
 refine jB D B hr (hb [.ref x] rfl) (fun y hy=>?_) fun hE L hL hns hk=>?_
 ·rw [List.mem_singleton.mp hy,esc]; rfl
 have B₀:=B.keeps (tk:=s.toks+([("self",Value.ref x)]:List (Str×Value)).length) hk
 have P₀:=P.keeps (tk:=s.toks+([("self",Value.ref x)]:List (Str×Value)).length) hk
 refine ks_wpAt_execs_cons (ks_wpAt_Return_some ?_)
 refine jN U D B₀ hns (ar:=uF (oH 8)) (by rw [epa]; rfl) rfl P₀ rfl (by rw [esc]; rfl) (by rw [esc]; rfl) (by rw [esc]; rfl) (id:="list.__len__") (by kernel_rfl) rD oS mZ oA
  (fun A E Q s hi hQ=>EI (.inl rfl) hi hQ) (.inr rfl) o8 entry_list_len (fun A E Q s _ _ hQ=>by rw [I8]; exact wpAny_pure hQ) fun A' h' tk k'=>?_
 obtain ⟨ox,m,hq⟩:=P₀.obj; have hx:=hq.1; have hxc:=hq.2.1; have hxd:=hq.2.2
 exact IB (k' _ _ hx) hxd (h _ _ _ fun b o e=>k' _ _ (hk _ _ e))
end
end
end
section
open PySem PySem.W PySem.Calls PyProof.Rows PySem.SeqAt Builtin Builtin.ObjectAttr
section
variable {W:Wd} {C:Cx} {n:Nat} {ρ ρ':aW}
theorem w5 (self:Value):refuseLoop self "__setattr__" [.type "list",.type "object"]=pure ():=by kernel_rfl
section
variable {K:Frag} {prog:Program} {w:World} {A:Around} {E:Value->Shared->Prop} {s:Shared} {x dx T:Addr} {ox:Obj}
theorem FY {v:Value} {R:Result->Shared->Prop} {tk:Tok} (X:K.In s.heap) (SI:SetIn K T) (hx:s.heap.get? x=some ox) (hc:ox.cls=.ref T) (hd:ox.dict=some dx) (hn:notCls ox=true) (hD:s.heap.get? dx=some emptyDict)
  (h:∀h' tk kt hsh,h'.get? dx=some (dictOf [⟨hsh,.str "_initial_size" kt,v⟩] 1)->Heap.ExtBut dx s.heap h'->R (.ok (.ret .none)) { s with heap:=h',toks:=tk }) :
  codeAny (model prog w) A (.call (.builtin "object.__setattr__") ⟨[.ref x,.str "_initial_size" tk,v],[]⟩) R s:=by
 revert K prog w A s x dx T ox v R tk;refine no_implicit_lambda%(hK10 ?_);generalize (HK10 _).1=K,(HK10 _).2.1=prog,(HK10 _).2.2.1=w,(HK10 _).2.2.2.1=A,(HK10 _).2.2.2.2.1=s,(HK10 _).2.2.2.2.2.1=x,(HK10 _).2.2.2.2.2.2.1=dx,(HK10 _).2.2.2.2.2.2.2.1=T,(HK10 _).2.2.2.2.2.2.2.2.1=ox,(HK10 _).2.2.2.2.2.2.2.2.2=v;refine no_implicit_lambda%(hK2 ?_);generalize (HK2 _).1=R,(HK2 _).2=tk;intro X SI hx hc hd hn hD h
 have SF:=PySem.F.store_object
 obtain ⟨cd,hq⟩:=SI.cd; have hcd:=hq.1; have hmro:=hq.2.1; have hhas:=hq.2.2
 have I:PySem.W.InstAt s.heap x ox T (some emptyDict):=⟨hx,hc,hn,by rw [hd]; exact hD⟩
 have sub:Looks (model prog w) s.heap (isInstance (.ref x) (.type "object")) true:=I.type.andThen (looks_mroIn X (by unfold mroIn; rw [hcd,Option.bind_some,hmro]; rfl))
 refine codeAny_call_builtin SF.slot.plain SF.entry (@check_slot (model prog w) _ _ s "object.__setattr__" "object" "__setattr__" (.ref x) [.str "_initial_size" tk,v] [] _ SF.kind SF.split sub (SF.args (.ref x) (.str "_initial_size" tk) v) ?_)
 have hm:Looks (model prog w) s.heap (mroOf (.ref T)) cd.mro:=(looks_clsIn X hcd).andThen .now
 rw [osa_eq,refuse_eq]
 refine wpAny_bind (wpAny_bind (I.type.here (wpAny_bind (hm.here ?_))))
 rw [hmro,refuseLoop_ref,w5]
 refine wpAny_pure (wpAny_bind (I.type.here (wpAny_bind ((looks_findIn X SI.no).here (wpAny_bind ?_)))))
 refine wpAny_pure (a:=(none:Option Value)) ?_
 obtain ⟨oc,odi,oda,osl⟩:=ox
 dsimp only at hc hd
 subst hc hd
 have upd:=Heap.get?_update_self (h:=s.heap) (Obj.putName "_initial_size" (PyData.keyHash w.params "_initial_size") (.str "_initial_size" s.toks) v) hD (by rfl)
 refine wpAny_bind (wpAny_pure (wpAny_bind (wpAny_bind (wpAny_loadPart hx (wpAny_bind ((looks_clsIn X hcd).here ?_))))))
 rw [hhas]
 refine wpAny_pure (a:=some dx) (wpAny_bind (wpAny_pure (wpAny_bind ?_)))
 unfold nsSet
 refine wpAny_bind (wpAny_bind (wpAny_askSetting (wpAny_pure (wpAny_bind (wpAny_mkText (wpAny_bind (wpAny_loadPart hD ?_)))))))
 refine wpAny_updatePart hD ?_
 refine wpAny_bind (wpAny_lookBehind upd ?_ ?_)
 ·exact pastItsLine_dict (by show 1<=_; rw [sizeLine_eq]; lia)
 ·exact wpAny_pure (h _ _ _ _ upd (Heap.SameBut.update ..).extBut)
theorem DY {v:Value} {Q:Unit->Shared->Prop} (X:K.In s.heap) (SI:SetIn K T) (hx:s.heap.get? x=some ox) (hc:ox.cls=.ref T) (hd:ox.dict=some dx) (hn:notCls ox=true) (hD:s.heap.get? dx=some emptyDict)
  (h:∀h' tk kt hsh,h'.get? dx=some (dictOf [⟨hsh,.str "_initial_size" kt,v⟩] 1)->Heap.ExtBut dx s.heap h'->Q () { s with heap:=h',toks:=tk }) :
  wpAny (model prog w) A (setAttr (.ref x) "_initial_size" v) Q E s:=by
 have I:PySem.W.InstAt s.heap x ox T (some emptyDict):=⟨hx,hc,hn,by rw [hd]; exact hD⟩
 exact set_plain X I SI.sa (FY (s:={ s with toks:=s.toks+1 }) X SI hx hc hd hn hD fun h' tk kt hsh a b=>h h' tk kt hsh a b)
end
end
section
variable {W:Wd} {C:Cx} {n:Nat} {ρ ρ':aW}
section
variable {K:Frag} {A:Around} {E:Value->Shared->Prop} {s:Shared} {g:Gh} {x dx T cc f L:Addr} {R:Result->Shared->Prop}
theorem E7 {M:Model} {T:Value} {d:Addr} {Q:Value->Shared->Prop} (hx:s.heap.get? x=some { cls:=T,dict:=some d,data:=.seq #[] 0 })
  (hq:Q .none { s with heap:=s.heap.update x (Obj.mapSeq fun _ => #[]) }) :
  wpAny M A (Builtin.«list.__init__» ⟨[.ref x],[]⟩) (fun fin s'=>∃v,fin=.done (.ret v)/\Q v s') E s:=by
 unfold Builtin.«list.__init__»
 refine wpAny_bind ?_
 unfold Builtin.List.listItems
 refine wpAny_bind (wpAny_seqItems hx rfl (wpAny_pure ?_))
 refine wpAny_bind (wpAny_updateSeq hx rfl ?_)
 refine wpAny_bind (wpAny_letGo ?_)
 exact wpAny_pure ⟨_,rfl,hq⟩
theorem GJ {hsh:Int} {kt t:Tok}:AccO (dictOf [⟨hsh,.str "_initial_size" kt,.int 5 t⟩] 1):=
 ⟨⟨t,rfl⟩,fun x hx=>by
  simp only [List.mem_cons,List.not_mem_nil,or_false] at hx
  rcases hx with rfl|rfl|rfl|rfl<;>rfl,rfl⟩
structure IAt (W:Wd) (f:Addr) (cl:List (Str×Addr)):Prop where
 fd:∃fd,MDef W f fd (dW (oH 0)) cl/\fd.scope=aR (oH 0)/\fd.params=uV (oH 0)/\∀(s:Shared) (g:Gh),Base W s g->∀a b:Value,BindsTo s fd ⟨[a,b],[]⟩ [("self",a),("initial_size",b)]
theorem yM {fd:FuncData} {body:List Stmt} {cl:List (Str×Addr)} {args:List Value} {binds:List (Str×Value)} (D:MDef W f fd body cl) (B:Base W s g) (hr:A.depth<recursionLimit)
  (hb:BindsTo s fd ⟨args,[]⟩ binds) (hloc:∀x∈binds,fd.scope.names.lookup x.1=some .local)
  (h:∀hE L,s.heap.get? L=none->hE.Ns L (fun x=>binds.reverse.lookup x)->(∀b o,s.heap.get? b=some o->hE.get? b=some o) ->
   _root_.PySem.wpAt (model W.prog W.w) (A.deeper (callEnv fd L f)) (.func body (callEnv fd L f)) (execs body (callEnv fd L f)) (fun fl s'=>R (.ok (.ret (match fl with | .ret v=>v|_=>.none))) s')
    (fun e s'=>wpAny (model W.prog W.w) (A.deeper (callEnv fd L f)) (leaving (callEnv fd L f) e) (fun _ s''=>R (.error e) s'') (fun e' s''=>R (.error e') s'') s')
    { s with heap:=hE,toks:=s.toks+binds.length }):codeAny (model W.prog W.w) A (.call (.ref f) ⟨args,[]⟩) R s:=by
 obtain ⟨o,hq⟩:=D.fn.at B; have ho:=hq.1; have hd:=hq.2
 exact ks_codeAny_call_defAt hr ho hd B.nolimit (D.codeRec B) D.body hb D.cells hloc (fun hE hns hk=>h hE _ (get?_size _) hns hk) D.co D.gen D.kind
theorem JG {sp:Shared} {t5:Tok} (U:SupAt W K T cc) (SI:SetIn K T) (D:IAt W f [("__class__",cc)]) (B:Base W sp g) (xt:Ext W sp g s g) (hr:A.depth<recursionLimit)
  (nx:sp.heap.get? x=none) (nd:sp.heap.get? dx=none) (hne:dx≠x) (hx:s.heap.get? x=some { cls:=.ref T,dict:=some dx,data:=.seq #[] 0 }) (hD:s.heap.get? dx=some emptyDict) (hgx:∀p∈g,p.1≠x/\p.1≠dx)
  (h:∀h' tk o,AccO o->h'.get? dx=some o->h'.get? x=some (cV (some (.ref T,dx,o)) #[] 0)->Ext W sp g { s with heap:=h',toks:=tk } g->R (.ok (.ret .none)) { s with heap:=h',toks:=tk }) :
  codeAny (model W.prog W.w) A (.call (.ref f) ⟨[.ref x,.int 5 t5],[]⟩) R s:=by
 revert W K A s g x dx T cc f R sp t5;refine no_implicit_lambda%(hK10 ?_);generalize (HK10 _).1=W,(HK10 _).2.1=K,(HK10 _).2.2.1=A,(HK10 _).2.2.2.1=s,(HK10 _).2.2.2.2.1=g,(HK10 _).2.2.2.2.2.1=x,(HK10 _).2.2.2.2.2.2.1=dx,(HK10 _).2.2.2.2.2.2.2.1=T,(HK10 _).2.2.2.2.2.2.2.2.1=cc,(HK10 _).2.2.2.2.2.2.2.2.2=f;refine no_implicit_lambda%(hK3 ?_);generalize (HK3 _).1=R,(HK3 _).2.1=sp,(HK3 _).2.2=t5;intro U SI D B xt hr nx nd hne hx hD hgx h
 have Bs:=B.step xt
 obtain ⟨fd,hq⟩:=D.fd; have D:=hq.1; have esc:=hq.2.1; have epa:=hq.2.2.1; have hb:=hq.2.2.2
 refine yM D Bs hr (hb s g Bs (.ref x) (.int 5 t5)) (fun y hy=>?_) fun hE L hL hns hk=>?_
 ·simp only [List.mem_cons,List.not_mem_nil,or_false] at hy
  rcases hy with rfl|rfl<;>(rw [esc]; rfl)
 revert fd hE L;refine no_implicit_lambda%(hK ?_);generalize HK _=fd;intro hq D esc epa hb;refine no_implicit_lambda%(hK2 ?_);generalize (HK2 _).1=hE,(HK2 _).2=L;intro hL hns hk
 have B₀:=Bs.keeps (tk:=s.toks+([("self",Value.ref x),("initial_size",.int 5 t5)]:List (Str×Value)).length) hk
 have hLx:L≠x:=fun z=>by rw [z,hx] at hL; cases hL
 have hLd:L≠dx:=fun z=>by rw [z,hD] at hL; cases hL
 refine ks_wpAt_execs_cons (ks_wpAt_Assign_Attr ?_ (by kernel_rfl))
 refine wpAt_of_wpAny (wpAny_Name (wpAny_loadName_local D.kind (by show fd.scope.names.lookup _=_; rw [esc]; rfl) hns rfl ?_) (rfl))
 refine wpAny_Name (wpAny_loadName_local D.kind (by show fd.scope.names.lookup _=_; rw [esc]; rfl) hns rfl ?_) (rfl)
 refine DY (U.acc.In B₀) SI (hk _ _ hx) rfl rfl rfl (hk _ _ hD) fun hM tk0 kt hsh e₁ k₁=>?_
 have e0:Ext W sp g { s with heap:=hE,toks:=0 } g:=xt.trans (Ext.of_keeps (tk:=0) Bs.gok hk)
 have x₁:Ext W sp g { s with heap:=hM,toks:=tk0 } g:=Ext.same (s:={ s with heap:=hE,toks:=0 }) (tk:=tk0) B e0 nd (fun p hp=>(hgx p hp).2) k₁
 have hx1:hM.get? x=some { cls:=.ref T,dict:=some dx,data:=.seq #[] 0 }:=k₁ _ _ (Ne.symm hne) (hk _ _ hx)
 refine ks_wpAt_execs_cons (ks_wpAt_Expr_any ?_ (by show (fd.scope.kind==.module&&_)=false; rw [D.kind]; rfl) (by kernel_rfl))
 have hns1:hM.Ns L (fun y=>(List.zip (["self","initial_size"]:List Str) [Value.ref x,.int 5 t5]).reverse.lookup y):=hns.at' fun o e=>k₁ _ _ hLd e
 refine jN U D (B.step x₁) hns1 (ar:=uF (oH 0)) (by rw [epa]; rfl) rfl (items:=#[]) ⟨⟨_,_,hx1,rfl,rfl⟩⟩ rfl (by rw [esc]; rfl) (by rw [esc]; rfl) (by rw [esc]; rfl) (id:="list.__init__") (by kernel_rfl) o9 oS mZ oA
  (fun A E Q s hi hQ=>EI (.inr rfl) hi hQ) (.inr rfl) nK PySem.F.entry_list_init (fun A E Q s _ _ hQ=>by rw [EH]; exact wpAny_pure hQ) fun A' h' tk k'=>?_
 have hx':=k' _ _ hx1
 refine E7 hx' ?_
 refine wpAt_of_wpAny (wpAny_execs_nil ?_)
 obtain ⟨k₂,hq⟩:=nG (kk:=some (.ref T,dx,emptyDict)) hx' fun _ => #[]; have e₂:=hq.1; have b₂:=hq.2
 have e'0:=Heap.get?_update_self (Obj.mapSeq fun _ => #[]) hx' rfl
 refine h _ _ _ GJ (b₂ _ _ hne (k' _ _ e₁)) e'0 ?_
 exact Ext.same (s:={ s with heap:=h',toks:=0 }) (tk:=tk) B (x₁.trans (Ext.of_keeps (tk:=0) (B.step x₁).gok k')) nx (fun p hp=>(hgx p hp).1) b₂
end
end
section
variable {W:Wd} {C:Cx} {n:Nat} {ρ ρ':aW}
namespace NF
theorem kind:builtinKind "list.__new__" = some .builtinFn:=by decide +kernel
theorem split:splitId "list.__new__" = some ("list","__new__"):=by decide +kernel
noncomputable def sig:Manifest.Signature:=(Manifest.signature? "list.__new__").getD { machinery:=.hand,full:="",short:="",receiver:=.none,params:=[] }
theorem row:Manifest.signature? "list.__new__" = some sig:=by kernel_rfl
theorem args (T:Addr) (v:Value):Bind.checkArgs "list.__new__" sig ⟨[.ref T,v],[]⟩=pure ():=by kernel_rfl
end NF
section
variable {prog:Program} {w:World} {A:Around} {K:Frag} {T fI:Addr} {R:Result->Shared->Prop} {h:Heap} {g:Array GenState} {d:Drawn} {t:Nat} {os:OsState}
theorem qC (X:K.In h) (Y:MakeIn K T fI):Looks (model prog w) h (Bind.madeBy (.ref T)) (some "list.__new__"):=by
 revert prog w K T fI h;refine no_implicit_lambda%(hK6 ?_);generalize (HK6 _).1=prog,(HK6 _).2.1=w,(HK6 _).2.2.1=K,(HK6 _).2.2.2.1=T,(HK6 _).2.2.2.2.1=fI,(HK6 _).2.2.2.2.2=h;intro X Y
 obtain ⟨oc,od,cd,sl,ho,e1,e2,e3,e4,e5⟩:=Y.obj
 have hc:clsIn K T=some cd:=by unfold clsIn; rw [ho]
 have hm:Looks (model prog w) h (mroOf (.ref T)) cd.mro:=(looks_clsIn X hc).andThen .now
 intro A Q E s k q
 unfold Bind.madeBy
 refine wpAny_bind (hm A _ E s k ?_)
 rw [e3,List.forIn_cons]
 refine wpAny_bind (wpAny_bind (wpAny_bind (wpAny_bind (wpAny_loadPart (k _ _ (X _ _ ho)) (wpAny_pure ?_)))))
 rw [←Array.getElem?_toList,e5]
 exact wpAny_pure (wpAny_pure (wpAny_pure q))
theorem E3 (X:K.In h) (Y:MakeIn K T fI):Looks (model prog w) h (Bind.staticBase (.ref T)) (.ref T):=by
 have made:=qC (prog:=prog) (w:=w) X Y
 obtain ⟨oc,od,cd,sl,ho,e1,e2,e3,e4,e5⟩:=Y.obj
 have hc:clsIn K T=some cd:=by unfold clsIn; rw [ho]
 have hm:Looks (model prog w) h (mroOf (.ref T)) cd.mro:=(looks_clsIn X hc).andThen .now
 intro A Q E s k q
 unfold Bind.staticBase
 refine wpAny_bind (hm A _ E s k ?_)
 rw [e3,List.forIn_cons]
 exact wpAny_bind (wpAny_bind (wpAny_bind (made A _ E s k (wpAny_pure (wpAny_pure (wpAny_pure q))))))
theorem DK {M:Model} {E:Value->Shared->Prop} {s:Shared} {Q:Unit->Shared->Prop} {i:String} {T:Addr} {args:Args} {sig:Manifest.Signature} (hk:builtinKind i=some .builtinFn) (hs:splitId i=some ("list","__new__")) (hr:Manifest.signature? i=some sig) {rest:List Value} (hp:args.pos=.ref T::rest) (hA:Bind.checkArgs i sig args=pure ())
  (ty:Looks M s.heap (isType (.ref T)) true) (sub:Looks M s.heap (isSubtype (.ref T) (.type "list")) true) (base:Looks M s.heap (Bind.staticBase (.ref T)) (.ref T)) (made:Looks M s.heap (Bind.madeBy (.ref T)) (some i)) (q:Q () s):wpAny M A (checkBuiltinCall i args) Q E s:=by
 unfold checkBuiltinCall
 rw [hk,hs,hp]
 refine wpAny_ite_true (by decide) (wpAny_bind (ty.here (wpAny_ite_false rfl (wpAny_bind (sub.here (wpAny_ite_false rfl ?_))))))
 refine wpAny_bind (base.here (wpAny_bind (made.here (wpAny_ite_false (by simp) ?_))))
 rw [hr]
 show wpAny M A (Bind.checkArgs i sig args) Q E s
 rw [hA]
 exact wpAny_pure q
noncomputable abbrev dH (T dx:Addr):Obj:={ cls:=.ref T,dict:=some dx,data:=.seq #[] 0 }
theorem yP {v:Value} (X:K.In h) (Y:MakeIn K T fI)
  (hq:R (.ok (.ret (.ref (h.objs.size+1)))) ⟨(h.push emptyDict).push (dH T h.objs.size),g,d,t,os⟩) :
  codeAny (model prog w) A (.call (.builtin "list.__new__") ⟨[.ref T,v],[]⟩) R ⟨h,g,d,t,os⟩:=by
 have made:=qC (prog:=prog) (w:=w) X Y
 have base:=E3 (prog:=prog) (w:=w) X Y
 obtain ⟨oc,od,cd,sl,ho,e1,e2,e3,e4,e5⟩:=Y.obj
 have hT:h.get? T=some ⟨oc,od,.cls cd,sl⟩:=X _ _ ho
 have hc:clsIn K T=some cd:=by unfold clsIn; rw [ho]
 have sub:Looks (model prog w) h (isSubtype (.ref T) (.type "list")) true:=looks_mroIn X (by unfold mroIn; rw [hc,Option.bind_some,e3]; rfl)
 refine codeAny_call_builtin_code (Code.quiet_builtin _ (by decide +kernel)) ?_
 refine DK NF.kind NF.split NF.row rfl (NF.args _ _) ((Looks.ld (part:=some headPart) hT).andThen .now) sub base made ?_
 refine codeAny_builtin_stack F.entry_list_new rfl fun p st=>?_
 rw [Around.under_plainId F.plain_list_new _]
 have hown:=owner_list_new
 simp only [hown]
 repeat (first|(with_reducible refine wpAny_ite_false ?_ ?_; focus (first|rfl|(simp; done)))|lk)
 refine nd_load (Heap.get?_push_of_some _ (Heap.get?_push_of_some _ hT)) (wpAny_pure (a:=_) ?_)
 dsimp only
 rw [e2]
 refine wpAny_pure (wpAny_pure (wpAny_pure ?_))
 show R (.ok (.ret (.ref (h.push emptyDict).objs.size))) _
 rw [Heap.size_push]
 exact hq
theorem CE {v:Value} (X:K.In h) (Y:MakeIn K T fI)
  (hq:codeAny (model prog w) (A.under (.builtin "type.__call__" ⟨[.ref T,v],[]⟩)) (.call (.ref fI) ⟨[.ref (h.objs.size+1),v],[]⟩) (InitBack (h.objs.size+1) R) ⟨(h.push emptyDict).push (dH T h.objs.size),g,d,t,os⟩) :
  codeAny (model prog w) A (.call (.ref T) ⟨[v],[]⟩) R ⟨h,g,d,t,os⟩:=by
 have made:=qC (prog:=prog) (w:=w) X Y
 revert prog w A K T fI R h g d t os v;refine no_implicit_lambda%(hK10 ?_);generalize (HK10 _).1=prog,(HK10 _).2.1=w,(HK10 _).2.2.1=A,(HK10 _).2.2.2.1=K,(HK10 _).2.2.2.2.1=T,(HK10 _).2.2.2.2.2.1=fI,(HK10 _).2.2.2.2.2.2.1=R,(HK10 _).2.2.2.2.2.2.2.1=h,(HK10 _).2.2.2.2.2.2.2.2.1=g,(HK10 _).2.2.2.2.2.2.2.2.2=d;refine no_implicit_lambda%(hK3 ?_);generalize (HK3 _).1=t,(HK3 _).2.1=os,(HK3 _).2.2=v;intro X Y hq made
 obtain ⟨oc,od,cd,sl,ho,e1,e2,e3,e4,e5⟩:=Y.obj
 have hT:h.get? T=some ⟨oc,od,.cls cd,sl⟩:=X _ _ ho
 have hc:clsIn K T=some cd:=by unfold clsIn; rw [ho]
 have call:=looks_specialIn (M:=model prog w) X Y.call
 have typ:=looks_instIn (M:=model prog w) X Y.typ
 have e4':cd.mro.isEmpty=false:=by rw [e3]; rfl
 refine codeAny_of_tree ?_
 refine nd_load hT ?_
 show wpAny _ _ (callAny.viaDunder (.ref T) _) _ _ _
 unfold callAny.viaDunder
 refine wpAny_bind (call.at ?_)
 dsimp only
 rw [tc_bind]
 refine wpAny_bind (wpAny_pure (wpAny_bind (wpAny_pure ?_)))
 refine wpAny_pure (a:=Fin.again (.call (.builtin "type.__call__") ⟨[.ref T,v],[]⟩)) (And.intro rfl ?_)
 refine codeAny_call_builtin_at (Code.quiet_builtin _ (by decide +kernel)) entry_typeCall (check_slot tc_kind tc_split typ (tc_args _ _ _) ?_)
 unfold Builtin.«type.__call__»
 have hm:Looks (model prog w) h (mroOf (.ref T)) cd.mro:=((Looks.ld (part:=none) hT).andThen .now).andThen .now
 repeat (first|(with_reducible refine wpAny_ite_false ?_ ?_; focus (first|rfl|(simp [e4']; done)))|with_reducible refine wpAny_call ?_|lk)
 refine yP X Y ?_
 have k:∀b o,h.get? b=some o->((h.push emptyDict).push (dH T h.objs.size)).get? b=some o:=fun b o e=>Heap.get?_push_of_some _ (Heap.get?_push_of_some _ e)
 have hx:((h.push emptyDict).push (dH T h.objs.size)).get? (h.objs.size+1)=some (dH T h.objs.size):=by heap_get
 have t1:Looks (model prog w) ((h.push emptyDict).push (dH T h.objs.size)) (typeOf (.ref (h.objs.size+1))) (.ref T):=(Looks.ld hx).andThen .now
 have s1:Looks (model prog w) ((h.push emptyDict).push (dH T h.objs.size)) (isSubtype (.ref T) (.ref T)) true:=looks_mroIn (X.keeps k) (by unfold mroIn; rw [hc,Option.bind_some,e3]; simp)
 have i1:=(looks_findIn (M:=model prog w) X Y.init).keeps k
 have b1:=(bind_fn (M:=model prog w) X (.ref (h.objs.size+1)) Y.fn).keeps k
 delta isInstance callSpecial? specialOf
 repeat (first|with_reducible refine wpAny_call ?_|lk)
 refine codeAny_mono hq fun r s' z=>?_
 rcases r with e|(v|_|_|_)<;>first|exact z|exact z.elim|skip
 obtain ⟨rfl,z⟩:=z
 exact wpAny_pure (wpAny_pure z)
end
end
section
variable {W:Wd} {C:Cx} {n:Nat} {ρ ρ':aW}
namespace AF
theorem kind_append:builtinKind "list.append" = some .method:=by decide +kernel
theorem split_append:splitId "list.append" = some ("list","append"):=by decide +kernel
theorem plain_append:plainId "list.append" = true:=by decide +kernel
end AF
section
variable {K:Frag} {A:Around} {E:Value->Shared->Prop} {s:Shared} {g:Gh} {x d T cc f L:Addr} {o:Obj} {R:Result->Shared->Prop}
theorem f9 {env:Env} {e:Expr} {name:Str} {apos pos:Pos} {args:List Expr} {Q:Value->Shared->Prop} {prog:Program} {w:World}
  (hbase:attributeBase e name env (eval e env)=eval e env)
  (hfew:((backTo pos (starEach args env)).all (fun x => !x.1)&&(backToKw pos (keywordEach [] env)).all (fun x=>x.1.isSome)
   && decide (args.length+([]:List Keyword).length+(if ([]:List Keyword).isEmpty then 0 else 1)<30))=true)
  (hline:(apos.endLine==pos.line)=true)
  (h:wpAny (model prog w) A (eval e env) (fun ov s₁=>∀pl,wpAny (model prog w) A (getMethod ov name pl) (fun fx s₂=>wpAny (model prog w) A (callWith pos fx.1 fx.2 (backTo pos (starEach args env)) []) Q E s₂) E s₁) E s) :
  wpAny (model prog w) A (eval (.Call (.Attribute e name apos) args [] pos) env) Q E s:=by
 rw [arm_eval_Call,hbase]
 refine wpAny_bind (wpAny_mono h (fun ov s₁ hM=>?_) fun _ _ e=>e)
 refine wpAny_bind (wpAny_standAt ?_)
 have hform:methodCallForm (args.length+([]:List Keyword).length) (backTo pos (starEach args env)) (backToKw pos (keywordEach [] env))=true:=hfew
 have hpos:methodCallPos true e env apos pos=pure pos:=by unfold methodCallPos; simp [hline]
 unfold methodCall
 rw [hform]
 refine wpAny_bind (wpAny_holding (wpAny_mono (hM _) (fun fx s₂ hU=>?_) fun _ _ e=>e))
 exact wpAny_bind (wpAny_of_eq hpos hU)
theorem IR {vs:List Value} {m:Nat} {v1 v2:Value} (U:AccAt W K T) (D:MAt W f (oH 1) [] ["self","fws","string"]) (B:Base W s g) (hr:A.depth<recursionLimit)
  (hx:s.heap.get? x=some (cV (some (.ref T,d,o)) vs.toArray m)) (hd:s.heap.get? d=some o) (ho:AccO o) (hz:vs.length<=1000)
  (h:∀hM h' tk q m',(∀b o,s.heap.get? b=some o->hM.get? b=some o)->hM.get? q=some { cls:=.type "tuple",data:=.seq [v1,v2].toArray }->s.heap.get? q=none->Heap.ExtBut x hM h'->h'.get? x=some (cV (some (.ref T,d,o)) (vs++[Value.ref q]).toArray m')->R (.ok (.ret .none)) { s with heap:=h',toks:=tk }) :
  codeAny (model W.prog W.w) A (.call (.ref f) ⟨[.ref x,v1,v2],[]⟩) R s:=by
 revert W K A s g x d T f o R vs m v1 v2;refine no_implicit_lambda%(hK10 ?_);generalize (HK10 _).1=W,(HK10 _).2.1=K,(HK10 _).2.2.1=A,(HK10 _).2.2.2.1=s,(HK10 _).2.2.2.2.1=g,(HK10 _).2.2.2.2.2.1=x,(HK10 _).2.2.2.2.2.2.1=d,(HK10 _).2.2.2.2.2.2.2.1=T,(HK10 _).2.2.2.2.2.2.2.2.1=f,(HK10 _).2.2.2.2.2.2.2.2.2=o;refine no_implicit_lambda%(hK5 ?_);generalize (HK5 _).1=R,(HK5 _).2.1=vs,(HK5 _).2.2.1=m,(HK5 _).2.2.2.1=v1,(HK5 _).2.2.2.2=v2;intro U D B hr hx hd ho hz h
 obtain ⟨fd,hq⟩:=D.fd; have D:=hq.1; have esc:=hq.2.1; have epa:=hq.2.2.1; have hb:=hq.2.2.2
 refine jB D B hr (hb [.ref x,v1,v2] rfl) (fun y hy=>?_) fun hE L hL hns hk=>wpAt_of_wpAny ?_
 ·simp only [List.zip_cons_cons,List.zip_nil_right,List.mem_cons,List.not_mem_nil,or_false] at hy
  rcases hy with rfl|rfl|rfl<;>(rw [esc]; rfl)
 have loc:∀x:Str,(aR (oH 1)).names.lookup x=some .local->(callEnv fd L f).kindOf x=some .local:=fun x e=>by show fd.scope.names.lookup _=_; rw [esc]; exact e
 have B₀:=B.keeps (tk:=0) hk
 have hx0:=hk _ _ hx
 have hd0:=hk _ _ hd
 have X0:K.In hE:=U.In B₀
 refine wpAny_execs_cons (wpAny_Expr_any ?_ (by show (fd.scope.kind==.module&&_)=false; rw [D.kind]; rfl) rfl)
 refine f9 rfl rfl rfl (wpAny_Name (wpAny_loadName_local D.kind (loc _ rfl) hns rfl fun pl=>?_) (rfl))
 refine B2 (K:=K) (T:=T) (od:=some o) X0 (dR hx0 hd0) U.ga U.gx U.app PySem.F.type_list_append (ho.shadow (by simp)) ?_
 refine callWith_builtin rfl (evalArgs_plain ?_)
 refine spliced_cons (Tuple_ (k:=0) ?_)
 refine spliced_cons (wpAny_Name (wpAny_loadName_local D.kind (loc _ rfl) hns rfl ?_) (rfl))
 refine spliced_cons (wpAny_Name (wpAny_loadName_local D.kind (loc _ rfl) hns rfl ?_) (rfl))
 refine spliced_nil (wpAny_newObj_type ?_ (by size_fits))
 refine spliced_nil ?_
 have hx1:=Heap.get?_push_of_some ({ cls:=.type "tuple",data:=.seq [v1,v2].toArray }:Obj) hx0
 have hi:Looks (model W.prog W.w) (hE.push { cls:=.type "tuple",data:=.seq [v1,v2].toArray }) (isInstance (.ref x) (.type "list")) true:=
  ((Looks.ld hx1).andThen .now:Looks _ _ (typeOf (.ref x)) (.ref T)).andThen (looks_mroIn (X0.keeps fun _ _ e=>Heap.get?_push_of_some _ e) U.lst)
 refine iI (x:=x) (.inl AF.kind_append) AF.split_append AF.plain_append PySem.F.entry_list_append hi (PySem.F.args_list_append_2 _ _) ?_
 refine zH hx1 (a6 _ _ _) (by rw [List.size_toArray,sizeLine_eq]; lia) ?_
 refine wpAny_execs_nil ?_
 obtain ⟨m',hq⟩:=nG hx1 fun xs=>xs.push (.ref hE.objs.size); have e₂:=hq.1; have b₂:=hq.2
 have hq:s.heap.get? hE.objs.size=none:=by
  cases e:s.heap.get? hE.objs.size with
  | none=>rfl
  | some o'=>exact absurd (Heap.lt_size (hk _ _ e)) (Nat.lt_irrefl _)
 refine h _ _ _ hE.objs.size m' (fun b o e=>Heap.get?_push_of_some _ (hk _ _ e)) (Heap.get?_push_size _ rfl) hq b₂ ?_
 rw [e₂]; simp
end
end
section
variable {W:Wd} {C:Cx} {n:Nat} {ρ ρ':aW}
section
variable {K:Frag} {A:Around} {E:Value->Shared->Prop} {s:Shared} {g:Gh} {x d T cc f fPc L:Addr} {o:Obj} {R:Result->Shared->Prop}
theorem II {M:Model} {a:Addr} {ob:Obj} {vs:List Value} {v:Value} {m:Nat} {Q:Value->Shared->Prop} (ho:s.heap.get? a=some ob) (hd:ob.data=.seq (vs++[v]).toArray m) (hz:vs.length<=1000)
  (hq:Q v { s with heap:=s.heap.update a (Obj.mapSeq fun xs=>xs.eraseIdxIfInBounds vs.length) }):wpAny M A (Builtin.«list.pop» ⟨[.ref a],[]⟩) (fun fin s'=>∃v',fin=.done (.ret v')/\Q v' s') E s:=by
 unfold Builtin.«list.pop»
 refine wpAny_bind (wpAny_of_eq (a:=(.ref a,[])) (by kernel_rfl) ?_)
 refine wpAny_bind (wpAny_pure ?_)
 refine wpAny_bind ?_
 unfold Builtin.List.listItems
 refine wpAny_bind (wpAny_seqItems ho hd (wpAny_pure ?_))
 have h1:(vs++[v]).toArray.isEmpty=false:=by simp
 have h2:(seqIndex? (-1) (vs++[v]).toArray.size).bind (fun k=>(vs++[v]).toArray[k]?.map (k,·))=some (vs.length,v):=by
  have e:seqIndex? (-1) (vs++[v]).toArray.size=some vs.length:=by
   unfold seqIndex?
   simp
   lia
  rw [e]
  simp
 rw [h1]
 dsimp only
 rw [if_neg (by decide)]
 rw [h2]
 dsimp only
 refine wpAny_bind (wpAny_updateSeq ho hd (wpAny_pure ⟨_,rfl,hq⟩) (by rw [List.size_toArray,sizeLine_eq]; simp; lia) ?_)
 rw [i9 _ _ (by simp),List.size_toArray,sizeLine_eq]
 have:=List.length_eraseIdx_le (vs++[v]) vs.length
 simp at this ⊢
 lia
structure PopAt (W:Wd) (K:Frag) (T cc fPc:Addr):Prop where
 sup:SupAt W K T cc
 pc:MAt W fPc (oH 8) [("__class__",cc)] ["self"]
 find:findIn K (.ref T) "part_count" = some (some (.ref fPc))
 fn:typeIn K (.ref fPc)=some (.type "function")
theorem A7 {env:Env} {e:Expr} {apos pos:Pos} {items:Array Value} {m:Nat} {Q:Value->Shared->Prop} (U:PopAt W K T cc fPc) (B:Base W s g) (hr:A.depth<recursionLimit) (ho:AccO o)
  (hx:s.heap.get? x=some (cV (some (.ref T,d,o)) items m)) (hd:s.heap.get? d=some o) (he:∀Q':Value->Shared->Prop,Q' (.ref x) s->wpAny (model W.prog W.w) A (eval e env) Q' E s)
  (hbase:attributeBase e "part_count" env (eval e env)=eval e env) (hline:(apos.endLine==pos.line)=true)
  (h:∀h' tk t,(∀b o,s.heap.get? b=some o->h'.get? b=some o)->Q (.int items.size t) { s with heap:=h',toks:=tk }) :
  wpAny (model W.prog W.w) A (eval (.Call (.Attribute e "part_count" apos) [] [] pos) env) Q E s:=by
 refine f9 hbase rfl hline (he _ fun pl=>?_)
 have X:=U.sup.acc.In B
 refine jO (od:=some o) X (dR hx hd) U.sup.acc.ga U.sup.acc.gx U.find U.fn (ho.shadow (by simp)) ?_
 obtain ⟨fd,hq⟩:=U.pc.fd; have D:=hq.1
 obtain ⟨of,hq⟩:=D.fn.at B; have hof:=hq.1; have hofd:=hq.2
 refine callWith_function (o:=of) (fd:=fd) (evalArgs_nil3 ⟨⟨hof,hofd⟩,?_⟩)
 exact wpAny_call (NU U.sup U.pc B hr ⟨⟨_,_,hx,rfl,a6 _ _ _⟩⟩ h)
theorem GF {items:Array Value} {m:Nat} (U:PopAt W K T cc fPc) (hpn:alongIn K "pop" [.type "list",.type "object"]=some (some (.builtin "list.pop"))) (D:MAt W f (oH 3) [("__class__",cc)] ["self"]) (B:Base W s g) (hR:Room 3 A) (ho:AccO o)
  (hx:s.heap.get? x=some (cV (some (.ref T,d,o)) items m)) (hd:s.heap.get? d=some o)
  (h0:items.size=0->∀h' tk q t1 t2,(∀b o,s.heap.get? b=some o->h'.get? b=some o)->h'.get? q=some { cls:=.type "tuple",data:=.seq [.str "" t1,.str "" t2].toArray }->s.heap.get? q=none->R (.ok (.ret (.ref q))) { s with heap:=h',toks:=tk })
  (h1:∀vs v,items=(vs++[v]).toArray->vs.length<=1000/\∀h' tk m',h'.get? x=some (cV (some (.ref T,d,o)) vs.toArray m')->Heap.ExtBut x s.heap h'->R (.ok (.ret v)) { s with heap:=h',toks:=tk }) :
  codeAny (model W.prog W.w) A (.call (.ref f) ⟨[.ref x],[]⟩) R s:=by
 revert W K A s g x d T cc f fPc o R items m;refine no_implicit_lambda%(hK10 ?_);generalize (HK10 _).1=W,(HK10 _).2.1=K,(HK10 _).2.2.1=A,(HK10 _).2.2.2.1=s,(HK10 _).2.2.2.2.1=g,(HK10 _).2.2.2.2.2.1=x,(HK10 _).2.2.2.2.2.2.1=d,(HK10 _).2.2.2.2.2.2.2.1=T,(HK10 _).2.2.2.2.2.2.2.2.1=cc,(HK10 _).2.2.2.2.2.2.2.2.2=f;refine no_implicit_lambda%(hK5 ?_);generalize (HK5 _).1=fPc,(HK5 _).2.1=o,(HK5 _).2.2.1=R,(HK5 _).2.2.2.1=items,(HK5 _).2.2.2.2=m;intro U hpn D B hR ho hx hd h0 h1
 obtain ⟨fd,hq⟩:=D.fd; have D:=hq.1; have esc:=hq.2.1; have epa:=hq.2.2.1; have hb:=hq.2.2.2
 refine jB D B hR.lt (hb [.ref x] rfl) (fun y hy=>?_) fun hE L hL hns hk=>?_
 ·rw [List.mem_singleton.mp hy,esc]; rfl
 have loc:(callEnv fd L f).kindOf "self" = some .local:=by show fd.scope.names.lookup _=_; rw [esc]; rfl
 revert fd hE L;refine no_implicit_lambda%(hK ?_);generalize HK _=fd;intro hq D esc epa hb;refine no_implicit_lambda%(hK2 ?_);generalize (HK2 _).1=hE,(HK2 _).2=L;intro hL hns hk loc
 have B₀:Base W { s with heap:=hE,toks:=s.toks+1 } g:=B.keeps hk
 have hx0:=hk _ _ hx
 have hd0:=hk _ _ hd
 have R1:Room 2 (A.deeper (callEnv fd L f)):=hR.deeper _
 show _root_.PySem.wpAt _ _ _ (execs [.If (.Compare (.Call (.Attribute (.Name "self" _) "part_count" _) [] [] _) [.Eq] [.Constant (.int 0) _ _] _) [.Return (some (.Tuple [.Constant (.str "") _ _,.Constant (.str "") _ _] _ _)) _] [] _,
  .Return (some (.Call (.Attribute (.Call (.Name "super" _) [] [] _) "pop" _) [] [] _)) _] _) _ _ _
 refine ks_wpAt_execs_cons (ks_wpAt_If (wpAt_of_wpAny (wpAny_isTrue_Compare1 ?_)))
 refine A7 (s:={ s with heap:=hE,toks:=s.toks+1 }) U B₀ R1.lt ho hx0 hd0 (fun Q' q=>wpAny_Name (wpAny_loadName_local D.kind loc hns rfl q) (rfl)) rfl rfl fun hM tk0 t₁ k₁=>?_
 revert hM tk0 t₁;refine no_implicit_lambda%(hK3 ?_);generalize (HK3 _).1=hM,(HK3 _).2.1=tk0,(HK3 _).2.2=t₁;intro k₁
 have B₁:Base W { s with heap:=hM,toks:=tk0 } g:=B₀.keeps k₁
 have B₂:Base W { s with heap:=hM,toks:=tk0+1 } g:=B.keeps fun b o e=>k₁ _ _ (hk _ _ e)
 have hx1:=k₁ _ _ hx0
 have hd3:=k₁ _ _ hd0
 have cst:∀(Q:Value->Shared->Prop) (E:Value->Shared->Prop) k pos,Q (.int 0 tk0) { s with heap:=hM,toks:=tk0+1 }->wpAny (model W.prog W.w) (A.deeper (callEnv fd L f)) (eval (.Constant (.int 0) k pos) (callEnv fd L f)) Q E { s with heap:=hM,toks:=tk0 }:=fun Q E k pos q=>fun _ _ _=>q
 refine cst _ _ _ _ ?_
 refine PySem.P.eq_int (wpAny_truthy_bool ?_)
 by_cases hz:items.size=0
 ·rw [show ((items.size:Int)==0)=true by rw [hz]; rfl,if_pos rfl]
  refine ks_wpAt_execs_cons (ks_wpAt_Return_some (wpAt_of_wpAny (Tuple_ (k:=0) ?_)))
  refine spliced_cons (wpAny_Constant_str (k:=0) (pos:=⟨0,0,0,0⟩) ?_)
  refine spliced_cons (wpAny_Constant_str (k:=0) (pos:=⟨0,0,0,0⟩) ?_)
  refine spliced_nil (wpAny_newObj_type ?_ (by size_fits))
  have hq:s.heap.get? hM.objs.size=none:=by
   cases e:s.heap.get? hM.objs.size with
   | none=>rfl
   | some o'=>exact absurd (Heap.lt_size (k₁ _ _ (hk _ _ e))) (Nat.lt_irrefl _)
  exact h0 hz _ _ _ _ _ (fun b o e=>Heap.get?_push_of_some _ (k₁ _ _ (hk _ _ e))) (Heap.get?_push_size _ rfl) hq
 ·rw [show ((items.size:Int)==0)=false from beq_eq_false_iff_ne.mpr fun z=>hz (Int.ofNat.inj z),if_neg (by decide)]
  refine wpAt_of_wpAny (wpAny_execs_nil ?_)
  refine ks_wpAt_execs_cons (ks_wpAt_Return_some ?_)
  have hns1:=hns.at' fun o e=>k₁ _ _ e
  obtain ⟨cd,hq⟩:=U.sup.cd; have hcd:=hq.1; have hnm:=hq.2.1
  refine jN U.sup D B₂ hns1 (ar:=uF (oH 3)) (by rw [epa]; rfl) rfl (items:=items) ⟨⟨_,_,hx1,rfl,a6 _ _ _⟩⟩ rfl (by rw [esc]; rfl) (by rw [esc]; rfl) (by rw [esc]; rfl) (id:="list.pop") hpn PySem.F.type_list_pop wQ t8 v6
   (fun A E Q s hi hQ=>L4 hi hQ) (.inl rfl) oV PySem.F.entry_list_pop (fun A E Q s Bs P hQ=>?_) fun A' h' tk k'=>?_
  ·obtain ⟨ox,mm,hq⟩:=P.obj; have q1:=hq.1; have q2:=hq.2.1; have q3:=hq.2.2
   exact IE (U.sup.acc.In Bs) q1 q2 (by unfold notCls; rw [q3]) U.sup.mod hcd hnm U.sup.typ hQ
  ·have hl:items.toList≠[]:=fun z=>hz (by rw [←Array.length_toList,z]; rfl)
   have hdec:=List.dropLast_concat_getLast hl
   have hi:items=(items.toList.dropLast++[items.toList.getLast hl]).toArray:=by rw [hdec]
   have hq:=h1 _ _ hi; have hlen:=hq.1; have hR':=hq.2
   have hx':=k' _ _ hx1
   have hdt:(cV (some (.ref T,d,o)) items m).data=.seq (items.toList.dropLast++[items.toList.getLast hl]).toArray m:=by rw [a6,←hi]
   refine II hx' hdt hlen ?_
   obtain ⟨m',hq⟩:=nG hx' fun xs=>xs.eraseIdxIfInBounds items.toList.dropLast.length; have e₂:=hq.1; have b₂:=hq.2
   refine hR' _ _ m' ?_ fun b o hb e=>b₂ _ _ hb (k' _ _ (k₁ _ _ (hk _ _ e)))
   rw [e₂]
   congr 2
   have:items.eraseIdxIfInBounds items.toList.dropLast.length=(items.toList.dropLast++[items.toList.getLast hl]).toArray.eraseIdxIfInBounds items.toList.dropLast.length:=by rw [←hi]
   rw [this,i9 _ _ (by simp)]
   rw [List.eraseIdx_append_of_length_le (Nat.le_refl _)]
   simp
end
end
section
variable {W:Wd} {C:Cx} {n:Nat} {ρ ρ':aW}
noncomputable def jU (h:Heap) (a:Addr) (items:Array Value):Prop:=∃o m,h.get? a=some o/\o.data=.seq items m
theorem jU.at {h h':Heap} {a:Addr} {items:Array Value} (x:jU h a items) (k:∀o,h.get? a=some o->h'.get? a=some o):jU h' a items:=let ⟨o,m,e,d⟩:=x; ⟨o,m,k o e,d⟩
section
variable {prog:Program} {w:World} {A:Around} {E:Value->Shared->Prop} {s:Shared} {K:Frag} {x T d:Addr} {o:Obj}
theorem B7 {items:Array Value} {m:Nat} {Q:Value->Shared->Prop} {g:Gh} (U:AccAt W K T) (B:Base W s g) (hx:s.heap.get? x=some (cV (some (.ref T,d,o)) items m)) (hd:s.heap.get? d=some o)
  (hQ:Q (.ref s.heap.objs.size) { s with heap:=s.heap.push { cls:=.type "list_iterator",data:=.fields #[.ref x,.int 0 0] } }):wpAny (model W.prog W.w) A (pyIter (.ref x)) Q E s:=by
 revert W A E s K x T d o items m Q g;refine no_implicit_lambda%(hK10 ?_);generalize (HK10 _).1=W,(HK10 _).2.1=A,(HK10 _).2.2.1=E,(HK10 _).2.2.2.1=s,(HK10 _).2.2.2.2.1=K,(HK10 _).2.2.2.2.2.1=x,(HK10 _).2.2.2.2.2.2.1=T,(HK10 _).2.2.2.2.2.2.2.1=d,(HK10 _).2.2.2.2.2.2.2.2.1=o,(HK10 _).2.2.2.2.2.2.2.2.2=items;refine no_implicit_lambda%(hK3 ?_);generalize (HK3 _).1=m,(HK3 _).2.1=Q,(HK3 _).2.2=g;intro U B hx hd hQ
 have X:=U.In B
 have I:=dR hx hd
 have fin:∀(A:Around) (Q':Value->Shared->Prop),Q' (.ref s.heap.objs.size) { s with heap:=s.heap.push { cls:=.type "list_iterator",data:=.fields #[.ref x,.int 0 0] } }->wpAny (model W.prog W.w) A (call (.builtin "list.__iter__") [.ref x]) Q' E s:=fun A Q' hQ' =>
  iI (x:=x) (.inr (by decide +kernel)) (n:="__iter__") (by decide +kernel) (by decide +kernel) entry_list_iter (tW X I U.lst) (args_list_iter _)
   (by show wpAny _ _ (do ret (← newFields "list_iterator" [.ref x,rawInt 0])) _ _ s; exact wpAny_bind (wpAny_newObj_type (wpAny_pure ⟨_,rfl,hQ'⟩)))
 have one:∀refuse:Sem Value,wpAny (model W.prog W.w) A (callSpecialIfBoundUnlessNone? (.ref x) "__iter__" refuse) (fun r s'=>r=some (.ref s.heap.objs.size)/\s'={ s with heap:=s.heap.push { cls:=.type "list_iterator",data:=.fields #[.ref x,.int 0 0] } }) E s:=by
  intro refuse
  have fin2:wpAny (model W.prog W.w) A (if (Value.builtin "list.__iter__" == Value.none)=true then (refuse>>=fun v=>pure (some v)) else (call (.builtin "list.__iter__") [.ref x]>>=fun v=>pure (some v))) (fun r s'=>r=some (.ref s.heap.objs.size)/\s'={ s with heap:=s.heap.push { cls:=.type "list_iterator",data:=.fields #[.ref x,.int 0 0] } }) E s:=by
   rw [if_neg (show ¬((Value.builtin "list.__iter__" == Value.none)=true) from Bool.false_ne_true)]
   exact wpAny_bind (fin A _ (wpAny_pure ⟨rfl,rfl⟩))
  simp only [callSpecialIfBoundUnlessNone?,bindSpecialIfBound?]
  refine wpAny_holding (wpAny_bind (wpAny_bind (wpAny_bind (I.type.here ((looks_findIn X U.iter).here ?_)))))
  refine wpAny_bind (wpAny_askSetting (wpAny_ite ?_))
  split
  ·exact wpAny_bind (wpAny_of_eq (slot_list_iter.bind _) (wpAny_pure (by exact fin2)))
  ·exact wpAny_tryCatch (wpAny_bind (wpAny_of_eq (slot_list_iter.bind _) (wpAny_pure (by exact fin2))))
 unfold pyIter
 refine wpAny_bind (wpAny_bind (I.type.here ((looks_findIn X U.iter).here ?_)))
 refine wpAny_bind (wpAny_mono (one _) (fun r s' hr=>?_) fun _ _ z=>z)
 obtain ⟨rfl,rfl⟩:=hr
 refine wpAny_bind (wpAny_specialOf (T:="list_iterator") ⟨_,Heap.get?_push_size _ rfl,rfl⟩ slot_listiter_next.lookup ?_)
 exact wpAny_pure hQ
theorem BT {it l:Addr} {i:Nat} {items:Array Value} {v:Value} {Q:Option Value->Shared->Prop} (hit:s.heap.IsListIter it l i) (hl:jU s.heap l items) (hv:items[i]? = some v)
  (hQ:∀h',h'.IsListIter it l (i+1)->Heap.SameBut it s.heap h'->Q (some v) { s with heap:=h' }):wpAny (model prog w) A (pyNext (.ref it)) Q E s:=by
 obtain ⟨o,ho,hc,hd⟩:=id hit
 obtain ⟨ol,nl,hol,hdl⟩:=hl
 delta pyNext; try dsimp only
 refine wpAny_bind (wpAny_attempt (wpAny_callSpecial?_slot (name:=Str.ofString "__next__") hit.typeIs slot_listiter_next
  (wpAny_call_entry slot_listiter_next hit.typeIs entry_listiter_next ?_ (args_listiter_next _))))
 show wpAny _ _ (field (.ref it) 0>>=_) _ _ s
 refine wpAny_bind (wpAny_field ho hd (x:=.ref l) rfl ?_)
 rw [if_neg (show ¬((Value.ref l==Value.none)=true) from Bool.false_ne_true)]
 show wpAny _ _ (field (.ref it) 1>>=_) _ _ s
 refine wpAny_bind (wpAny_field ho hd (x:=.int i 0) rfl (wpAny_bind (wpAny_seqItems hol hdl ?_)))
 simp only [Int.toNat_natCast,hv]
 refine wpAny_bind (wpAny_setField ho hd (by simp) (wpAny_pure ⟨v,rfl,wpAny_pure (hQ _ ⟨_,Heap.get?_update_self _ ho (Obj.isFreed_of_fields (Obj.data_mapFields hd _)),(Obj.cls_mapFields ..).trans hc,?_⟩ (Heap.SameBut.update ..))⟩))
 rw [Obj.data_mapFields hd]; simp [rawInt]
theorem E4 {it l:Addr} {i:Nat} {items:Array Value} {Q:Option Value->Shared->Prop} (hh:A.handled=none) (hit:s.heap.IsListIter it l i) (hl:jU s.heap l items) (hv:items[i]? = none)
  (hQ:∀h',Heap.ExtBut it s.heap h'->Q none { s with heap:=h' }):wpAny (model prog w) A (pyNext (.ref it)) Q E s:=by
 revert prog w A E s it l i items Q;refine no_implicit_lambda%(hK10 ?_);generalize (HK10 _).1=prog,(HK10 _).2.1=w,(HK10 _).2.2.1=A,(HK10 _).2.2.2.1=E,(HK10 _).2.2.2.2.1=s,(HK10 _).2.2.2.2.2.1=it,(HK10 _).2.2.2.2.2.2.1=l,(HK10 _).2.2.2.2.2.2.2.1=i,(HK10 _).2.2.2.2.2.2.2.2.1=items,(HK10 _).2.2.2.2.2.2.2.2.2=Q;intro hh hit hl hv hQ
 obtain ⟨o,ho,hc,hd⟩:=id hit
 obtain ⟨ol,nl,hol,hdl⟩:=hl
 delta pyNext; try dsimp only
 refine wpAny_bind (wpAny_attempt (wpAny_callSpecial?_slot (name:=Str.ofString "__next__") hit.typeIs slot_listiter_next
  (wpAny_call_entry slot_listiter_next hit.typeIs entry_listiter_next ?_ (args_listiter_next _))))
 show wpAny _ _ (field (.ref it) 0>>=_) _ _ s
 refine wpAny_bind (wpAny_field ho hd (x:=.ref l) rfl ?_)
 rw [if_neg (show ¬((Value.ref l==Value.none)=true) from Bool.false_ne_true)]
 show wpAny _ _ (field (.ref it) 1>>=_) _ _ s
 refine wpAny_bind (wpAny_field ho hd (x:=.int i 0) rfl (wpAny_bind (wpAny_seqItems hol hdl ?_)))
 dsimp only
 rw [Int.toNat_natCast,hv]
 dsimp only
 refine wpAny_bind (wpAny_rule (wpAny_bind (wpAny_setField ho hd (by simp) ?_)))
 refine wpAny_bind ?_
 delta newExc newTuple; try dsimp only
 refine wpAny_bind (wpAny_newObj_type ?_ (by size_fits))
 refine wpAny_bind (m:=firstArgMember _ _) (wpAny_of_eq (a:=Value.none) (by first|rfl|(simp only [firstArgMember]; rfl)) ?_)
 refine wpAny_newObj_type ?_ (by size_fits)
 delta raiseNew; try dsimp only
 refine wpAny_bind (wpAny_handled ?_)
 rw [show A.in1.handled=none from hh]
 refine wpAny_bind (wpAny_pure (wpAny_throw ?_))
 refine wpAny_bind (wpAny_isInstance (T:="StopIteration") (b:=true) ⟨_,Heap.get?_push_size _ rfl,rfl⟩ isSubtype_stop ?_)
 exact wpAny_pure (hQ _ (((Heap.SameBut.update ..).extBut.push _).push _))
theorem zF (hh:A.handled=none) (I ax:Addr) (hne:ax≠I) (items:Array Value) (Ts:Nat->Addr) (vals:Nat->Array Value)
  (hit:∀j,j<items.size->items[j]? = some (.ref (Ts j))) (hTI:∀j,j<items.size->Ts j≠I) :
  WalksU prog w A I (I::ax::(List.range items.size).map Ts) [I] items.size (fun j v=>v=vals j)
   (fun j h=>h.IsListIter I ax j/\jU h ax items/\∀k,k<items.size->h.IsTuple (Ts k) (vals k))
   (fun j T h=>(j<items.size/\T=Ts j)/\h.IsListIter I ax (j+1)/\jU h ax items/\∀k,k<items.size->h.IsTuple (Ts k) (vals k)) where
 sub:=fun b hb=>by  simp at hb; simp [hb]
 frame:=fun _ _ _ st hk=>⟨st.1.at fun o e=>hk I (by simp) o e,st.2.1.at fun o e=>hk ax (by simp) o e,
  fun k hk'=>(st.2.2 k hk').at fun o e=>hk (Ts k) (List.mem_cons_of_mem _ (List.mem_cons_of_mem _ (List.mem_map.mpr ⟨k,List.mem_range.mpr hk',rfl⟩))) o e⟩
 item:=fun i s Q E hi st hQ=>by
  refine BT st.1 st.2.1 (v:=.ref (Ts i)) (hit i hi) fun h' hit' hs'=>?_
  have tup:∀k,k<items.size->h'.IsTuple (Ts k) (vals k):=fun k hk'=>(st.2.2 k hk').extBut hs'.extBut (hTI k hk')
  exact hQ (Ts i) (vals i) h' s.toks rfl (tup i hi) ⟨⟨hi,rfl⟩,hit',st.2.1.at fun o e=>hs'.extBut _ _ hne e,tup⟩ fun b o hb e=>hs'.extBut b o (fun h=>hb (by simp [h])) e
 go:=fun _ _ _ _ _ s Q _ hm hQ=>wpAny_letOwnedTupleGo_listiter hm.2.1 (hQ s.heap hm.2 fun _ _ _ e=>e)
 apart:=fun j T _ hm hmem=>by
  rcases List.mem_cons.mp hmem with e|e
  ·exact hTI j hm.1.1 (hm.1.2▸e)
  ·cases e
 done:=fun s Q E st hQ=>E4 hh st.1 st.2.1 (by simp) fun h' he'=>hQ h' s.toks fun b o hb e=>he' b o (fun h=>hb (by simp [h])) e
 self:=fun _ _ _ _ st hQ=>wpAny_pyIter_listiter st.1 hQ
end
end
section
variable {W:Wd} {C:Cx} {n:Nat} {ρ ρ':aW}
structure TabAt (W:Wd) (c P:Addr):Prop where
 tb:P∈W.tb
 code:∃ps,W.top.IsCode c P ps/\W.top.TableAt c P ps
structure BltAt (W:Wd):Prop where
 mod:∃bm o,W.mg "__builtins__" = some (.ref bm)/\bm≠builtinsNs/\W.top.get? bm=some o/\o.cls=.type "module" /\ o.dict=some builtinsNs/\o.data=.plain/\bm∉W.tb
theorem Ext.table {s:Shared} {g:Gh} {c P:Addr} {ps more:Array Value} {h':Heap} {tk:Tok} (B:Base W s g) (t:TabAt W c P) (hs:Heap.ExtBut P s.heap h') (h0:s.heap.TableAt c P ps) (h1:h'.IsCode c P (ps++more)) (h2:h'.TableAt c P (ps++more)) :
  Ext W s g { s with heap:=h',toks:=tk } g where
 keep:=fun b o e hb=>hs b o (fun z=>hb (z▸t.tb)) e
 old:=fun K=>by
  obtain ⟨ps0,hq⟩:=t.code; have q:=hq.2
  exact K.step_table q h0 h2 hs fun z=>B.wok.statics_tb (z▸t.tb)
 sub:=fun _ h=>h
 ok:=fun p hp=>⟨hs _ _ (fun z=>(B.gok p hp).2 (z▸t.tb)) (B.gok p hp).1,(B.gok p hp).2⟩
 new:=fun _ h=>.inl h
 os:=rfl
 bare:=id
 tabs:=fun T b hb c' ps0 q1 q2=>by
  revert W s g c P ps more h' tk b c' ps0;refine no_implicit_lambda%(hK9 ?_);generalize (HK9 _).1=W,(HK9 _).2.1=s,(HK9 _).2.2.1=g,(HK9 _).2.2.2.1=c,(HK9 _).2.2.2.2.1=P,(HK9 _).2.2.2.2.2.1=ps,(HK9 _).2.2.2.2.2.2.1=more,(HK9 _).2.2.2.2.2.2.2.1=h',(HK9 _).2.2.2.2.2.2.2.2=tk;intro B t hs h0 h1 h2 T;refine no_implicit_lambda%(hK ?_);generalize HK _=b;intro hb;refine no_implicit_lambda%(hK2 ?_);generalize (HK2 _).1=c',(HK2 _).2=ps0;intro q1 q2
  obtain ⟨ps',hq⟩:=T b hb c' ps0 q1 q2; have r1:=hq.1; have r2:=hq.2
  revert ps';refine no_implicit_lambda%(hK ?_);generalize HK _=ps';intro hq r1 r2
  have hc:c'≠P:=by
   rintro rfl
   obtain ⟨⟨oc,vs,e1,e2,_⟩,_⟩:=r2
   rw [h0.2] at e1; cases e1; cases e2
  by_cases hP:b=P
  ·subst hP
   have e:ps'=ps:=by
    have:=Option.some.inj (r2.2.symm.trans h0.2)
    injection this with _ _ h3
    injection h3
   subst e
   refine ⟨ps'++more,?_,?_⟩
   ·obtain ⟨o,vs,file,tf,flags,tg,inF,text,tt,op,a,b1,b2,b3,b4,b5,b6,b7,b8,b9,b10⟩:=r1
    revert o vs file tf flags tg inF text tt op;refine no_implicit_lambda%(hK10 ?_);generalize (HK10 _).1=o,(HK10 _).2.1=vs,(HK10 _).2.2.1=file,(HK10 _).2.2.2.1=tf,(HK10 _).2.2.2.2.1=flags,(HK10 _).2.2.2.2.2.1=tg,(HK10 _).2.2.2.2.2.2.1=inF,(HK10 _).2.2.2.2.2.2.2.1=text,(HK10 _).2.2.2.2.2.2.2.2.1=tt,(HK10 _).2.2.2.2.2.2.2.2.2=op;intro a b1 b2 b3 b4 b5 b6 b7 b8
    obtain ⟨o',vs',file',tf',flags',tg',inF',text',tt',op',a',_,_,_,_,_,_,b7',b8',b9',b10'⟩:=h1
    exact ⟨o,vs,file,tf,flags,tg,inF,text,tt,op',hs _ _ hc a,b1,b2,b3,b4,b5,b6,b7',b8',b9',b10⟩
   ·obtain ⟨⟨oc,vs,e1,e2⟩,_⟩:=r2
    exact ⟨⟨oc,vs,hs _ _ hc e1,e2⟩,h2.2⟩
  ·exact ⟨ps',r1.extBut hs hc hP,r2.extBut hs hc hP⟩
theorem CR {g:Gh} {ps:List (Str×Str)}:∀ {vs:List Value},DatAll g vs (ps.map fun p=>.tuple [.str p.1,.str p.2]) ->
  ∀j:Nat,∃f:Addr×Tok×Tok,∀p:Str×Str,ps[j]? = some p->vs[j]? = some (Value.ref f.1)/\∃m,(f.1,({ cls:=.type "tuple",data:=.seq [.str p.1 f.2.1,.str p.2 f.2.2].toArray m }:Obj))∈g:=by
 induction ps with
 | nil=>exact fun _ j=>⟨(0,0,0),fun p h=>nomatch h⟩
 | cons q ps ih =>
  intro vs hv j
  refine xU (fun v vs h r=>?_) hv
  cases j with
  | zero =>
   revert r
   refine j4 (fun a us m hm rr=>?_) h
   revert hm
   refine sB (fun v1 v2 h1 h2=>?_) rr
   refine cE (fun t1=>?_) h1
   refine cE (fun t2=>?_) h2
   exact fun hm _=>⟨(a,t1,t2),fun p hp=>Option.some.inj hp▸⟨rfl,m,hm⟩⟩
  | succ j=>exact (ih r j).elim fun f hf=>⟨f,hf⟩
theorem xH (n:Nat):passing (fun _=>true) n 0=List.range n:=by
 unfold passing
 rw [List.drop_zero]
 exact List.filter_eq_self.mpr fun _ _=>rfl
end
section
variable {W:Wd} {C:Cx} {n:Nat} {ρ ρ':aW}
section
variable {K:Frag} {A:Around} {E:Value->Shared->Prop} {s:Shared} {g:Gh} {x d T c P:Addr} {o:Obj}
theorem uD {env:Env} {pos:Pos} {q:Str} {scope:Scope} {Q:Value->Shared->Prop} (B:Base W s g) (tab:TabAt W c P) (hc:env.code=.ref c)
  (hQ:∀cv h' tk,Heap.ExtBut P s.heap h'->Ext W s g { s with heap:=h',toks:=tk } g->s.heap.objs.size<=h'.objs.size->Q cv { s with heap:=h',toks:=tk }):wpAny (model W.prog W.w) A (genexprCode env pos q scope) Q E s:=by
 obtain ⟨ps0,hq⟩:=tab.code; have a1:=hq.1; have a2:=hq.2
 obtain ⟨ps,hq⟩:=B.tabs P tab.tb c ps0 a1 a2; have b1:=hq.1; have b2:=hq.2
 cases e:codeAmong pos ps.toList with
 | some cv=>exact wpAny_genexprCode_hit hc b1 e (hQ cv s.heap s.toks (Heap.ExtBut.refl _ _) (Ext.refl B.gok) (Nat.le_refl _))
 | none=>exact wpAny_genexprCodeX hc b1 b2 e fun c' h' tk hx hlt1 hlt2 hcode _ htab _=>hQ _ h' tk hx (Ext.table B tab hx b2 hcode htab) (Nat.le_of_lt (Nat.lt_of_le_of_lt hlt1 hlt2))
theorem xT {env:Env} {vs:List Value} {m:Nat} {ps:List (Str×Str)} {elt iter:Expr} {xa xb:Str} {pa pb pt pos:Pos} {kt:Nat} {scope:Scope} {F:Nat->Value->Prop} {Q:Value->Shared->Prop}
  (U:AccAt W K T) (Bt:BltAt W) (tab:TabAt W c P) (B:Base W s g) (hh:A.handled=none) (hroom:A.depth<recursionLimit) (hc:env.code=.ref c) (hgl:env.globals=mainGlobals)
  (hx:s.heap.get? x=some (cV (some (.ref T,d,o)) vs.toArray m)) (hd:s.heap.get? d=some o) (hv:DatAll g vs (ps.map fun p=>.tuple [.str p.1,.str p.2]))
  (hself:∀Q':Value->Shared->Prop,Q' (.ref x) s->wpAny (model W.prog W.w) A (eval iter env) Q' E s)
  (hco:scope.isCoroutine=false) (hclos:closureFor scope env=pure []) (hcell:∀y∈scope.names,y.2≠.cell) (h0:scope.names.lookup (".0":Str)=some NameKind.local)
  (hxa:scope.names.lookup xa=some .local) (hxb:scope.names.lookup xb=some .local) (hab:xa≠xb) (hkind:scope.kind=.function)
  (helt:∀(A':Around) (E':Value->Shared->Prop) (L:Addr) (code:Value) (i:Nat) (p:Str×Str) (t u:Tok) (s₂:Shared) (m₂:Str->Option Value),A'.handled=none->ps[i]? = some p->s₂.heap.Ns L m₂->m₂ xa=some (.str p.1 t)->m₂ xb=some (.str p.2 u) ->
   s₂.heap.Ns mainGlobals W.mg->s₂.heap.Ns builtinsNs W.mb->wpAny (model W.prog W.w) A' (eval elt (genEnv scope [] L code builtinsNs env)) (fun y s₃=>F i y/\Keeps s₂ s₃) E' s₂)
  (hQ:∀a s5,Ext W s g s5 g->Gen W.prog W.w A (s.heap.objs.size-1) a ps.length (fun j y=>∃i,(List.range ps.length)[j]? = some i/\F i y) s5->Q (.ref a) s5)
  (hs:∀x,genFold iter env x=pure x) :
  wpAny (model W.prog W.w) A (eval (.GeneratorExp elt [⟨.Tuple [.Name xa pa,.Name xb pb] kt pt,iter,[],0⟩] scope pos) env) Q E s:=by
 revert W K A E s g x d T c P o env vs m ps elt iter xa xb pa pb pt pos kt scope F Q;refine no_implicit_lambda%(hK10 ?_);generalize (HK10 _).1=W,(HK10 _).2.1=K,(HK10 _).2.2.1=A,(HK10 _).2.2.2.1=E,(HK10 _).2.2.2.2.1=s,(HK10 _).2.2.2.2.2.1=g,(HK10 _).2.2.2.2.2.2.1=x,(HK10 _).2.2.2.2.2.2.2.1=d,(HK10 _).2.2.2.2.2.2.2.2.1=T,(HK10 _).2.2.2.2.2.2.2.2.2=c;refine no_implicit_lambda%(hK10 ?_);generalize (HK10 _).1=P,(HK10 _).2.1=o,(HK10 _).2.2.1=env,(HK10 _).2.2.2.1=vs,(HK10 _).2.2.2.2.1=m,(HK10 _).2.2.2.2.2.1=ps,(HK10 _).2.2.2.2.2.2.1=elt,(HK10 _).2.2.2.2.2.2.2.1=iter,(HK10 _).2.2.2.2.2.2.2.2.1=xa,(HK10 _).2.2.2.2.2.2.2.2.2=xb;refine no_implicit_lambda%(hK8 ?_);generalize (HK8 _).1=pa,(HK8 _).2.1=pb,(HK8 _).2.2.1=pt,(HK8 _).2.2.2.1=pos,(HK8 _).2.2.2.2.1=kt,(HK8 _).2.2.2.2.2.1=scope,(HK8 _).2.2.2.2.2.2.1=F,(HK8 _).2.2.2.2.2.2.2=Q;intro U Bt tab B hh hroom hc hgl hx hd hv hself hco hclos hcell h0 hxa hxb hab hkind helt hQ hs
 obtain ⟨f,hf⟩:=Classical.axiomOfChoice (CR hv)
 revert f;refine no_implicit_lambda%(hK ?_);generalize HK _=f;intro hf
 have hlen:vs.length=ps.length:=by rw [hv.length,List.length_map]
 have hpos:0<s.heap.objs.size:=Nat.lt_of_le_of_lt (Nat.zero_le _) (Heap.lt_size hx)
 obtain ⟨bm,bo,hq⟩:=Bt.mod; have hb1:=hq.1; have hb2:=hq.2.1; have hb3:=hq.2.2.1; have hb4:=hq.2.2.2.1; have hb5:=hq.2.2.2.2.1; have hb6:=hq.2.2.2.2.2.1; have hb7:=hq.2.2.2.2.2.2
 refine wpAny_GeneratorExp_walksQT hh hco hclos hcell h0 hxa hxb hab hkind hroom (hself _ (B7 U B hx hd ⟨?_,?_⟩)) hs
 ·exact (B.keeps (tk:=s.toks) fun b o e=>Heap.get?_push_of_some _ e).nolimit
 have k₂:∀b o,s.heap.get? b=some o->(s.heap.push { cls:=.type "list_iterator",data:=.fields #[.ref x,.int 0 0] }).get? b=some o:=fun b o e=>Heap.get?_push_of_some _ e
 have x₂:Ext W s g { s with heap:=s.heap.push { cls:=.type "list_iterator",data:=.fields #[.ref x,.int 0 0] } } g:=Ext.of_keeps (tk:=s.toks) B.gok k₂
 have B₂:=B.step x₂
 have hIt:(s.heap.push ({ cls:=.type "list_iterator",data:=.fields #[.ref x,.int 0 0] }:Obj)).get? s.heap.objs.size=some { cls:=.type "list_iterator",data:=.fields #[.ref x,.int 0 0] }:=Heap.get?_push_size _ rfl
 have hPd:P≠x:=fun z=>by
  obtain ⟨ps0,_,a2⟩:=tab.code
  obtain ⟨ps',b1,b2⟩:=B.tabs P tab.tb c ps0 (by assumption) a2
  rw [z] at b2
  have:=Option.some.inj (hx.symm.trans b2.2)
  injection this with h1
  cases h1
 have hPs:∃oP,s.heap.get? P=some oP:=by
  obtain ⟨ps0,a1,a2⟩:=tab.code
  obtain ⟨ps',b1,b2⟩:=B.tabs P tab.tb c ps0 a1 a2
  exact ⟨_,b2.2⟩
 obtain ⟨oP,hoP⟩:=hPs
 have hPI:s.heap.objs.size≠P:=fun z=>by rw [←z] at hoP; exact absurd (Heap.lt_size hoP) (Nat.lt_irrefl _)
 refine uD B₂ tab hc fun cv hV tk3 hx2 x₃ hz3=>?_
 revert bm bo oP cv hV tk3;refine no_implicit_lambda%(hK2 ?_);generalize (HK2 _).1=bm,(HK2 _).2=bo;intro hq hb1 hb2 hb3 hb4 hb5 hb6 hb7;refine no_implicit_lambda%(hK ?_);generalize HK _=oP;intro hoP;refine no_implicit_lambda%(hK3 ?_);generalize (HK3 _).1=cv,(HK3 _).2.1=hV,(HK3 _).2.2=tk3;intro hx2 x₃ hz3
 have x3':=x₂.trans x₃
 have B₃:=B.step x3'
 have hm3:hV.Ns mainGlobals W.mg:=B.wok.mg.at' fun o e=>B₃.topk _ _ e (B.wok.ns_tb (OldK.refl _) B.wok.mg)
 have hbl3:hV.Ns builtinsNs W.mb:=B.wok.mb.at' fun o e=>B₃.topk _ _ e (B.wok.ns_tb (OldK.refl _) B.wok.mb)
 refine wpAny_builtinsFor (by rw [hgl]; exact hm3) hb1 hb2 (B₃.topk _ _ hb3 hb7) hb4 hb5 hb6 ?_
 let I:=s.heap.objs.size
 let vals:Nat->Array Value:=fun j => #[.str ((ps[j]?).getD ("","")).1 (f j).2.1,.str ((ps[j]?).getD ("","")).2 (f j).2.2]
 have hsz:vs.toArray.size=ps.length:=by rw [List.size_toArray,hlen]
 have hget:∀j,j<ps.length->∃p,ps[j]? = some p:=fun j hj=>⟨_,List.getElem?_eq_getElem hj⟩
 have hit:∀j,j<vs.toArray.size->vs.toArray[j]? = some (.ref (f j).1):=fun j hj=>by
  obtain ⟨p,hp⟩:=hget j (hsz▸hj)
  refine (List.getElem?_toArray).trans ?_
  exact (hf j p hp).1
 have hTg:∀j,j<ps.length->∃mm,((f j).1,({ cls:=.type "tuple",data:=.seq (vals j) mm }:Obj))∈g:=fun j hj=>by
  obtain ⟨p,hp⟩:=hget j hj
  obtain ⟨mm,hm⟩:=(hf j p hp).2
  refine ⟨mm,?_⟩
  show ((f j).1,({ cls:=.type "tuple",data:=.seq #[.str ((ps[j]?).getD ("","")).1 (f j).2.1,.str ((ps[j]?).getD ("","")).2 (f j).2.2] mm }:Obj))∈g
  rw [hp]
  exact hm
 have hTI:∀j,j<vs.toArray.size->(f j).1≠I:=fun j hj=>by
  obtain ⟨mm,hm⟩:=hTg j (hsz▸hj)
  exact Nat.ne_of_lt (Heap.lt_size (B.gok _ hm).1)
 have hxI:x≠I:=Nat.ne_of_lt (Heap.lt_size hx)
 have hxt:x∉W.tb:=B.wok.data_tb B.old hx (by rw [a6]; intro _ z; cases z)
 have hx3:hV.get? x=some (cV (some (.ref T,d,o)) vs.toArray m):=x3'.keep _ _ hx hxt
 have hI3:hV.get? I=some { cls:=.type "list_iterator",data:=.fields #[.ref x,.int 0 0] }:=hx2 _ _ hPI hIt
 have st0:hV.IsListIter I x 0/\jU hV x vs.toArray/\∀k,k<vs.toArray.size->hV.IsTuple (f k).1 (vals k):=by
  refine ⟨⟨_,hI3,rfl,rfl⟩,⟨_,_,hx3,a6 _ _ _⟩,fun k hk=>?_⟩
  obtain ⟨mm,hm⟩:=hTg k (hsz▸hk)
  exact ⟨_,(B₃.gok _ hm).1,rfl,mm,rfl⟩
 have hcs:cStatics≠I:=by
  obtain ⟨mc,hq⟩:=B.nolimit; have hmc:=hq.1
  exact Nat.ne_of_lt hmc.lt
 refine ⟨I,_,[I],vs.toArray.size,_,_,_,fun _=>true,F,rfl,fun A' hA=>(zF hA I x hxI vs.toArray (fun j=>(f j).1) vals hit hTI).bound,fun i v hv'=>⟨_,_,hv'.2⟩,st0,fun b hb=>?_,B₃.nolimit,fun hm=>hcs (List.mem_singleton.mp hm),fun href hhref=>⟨?_,?_⟩,fun a hZ tk gs hgb hag hsz5 hk3 Wk hat=>?_⟩
 ·rcases List.mem_cons.mp hb with rfl|hb
  ·exact Heap.lt_size hI3
  rcases List.mem_cons.mp hb with rfl|hb
  ·exact Heap.lt_size hx3
  obtain ⟨k,hk,rfl⟩:=List.mem_map.mp hb
  obtain ⟨oo,hq⟩:=st0.2.2 k (List.mem_range.mp hk); have e:=hq.1
  exact Heap.lt_size e
 ·intro A' E' i va vb t m₂ hA hP hn hma hmb hkp
  exact wpAny_pure ⟨rfl,_,_,rfl,fun _ _ e=>e⟩
 ·intro A' E' i va vb t m₂ hA hP _ hn hma hmb hkp
  obtain ⟨hi,hv'⟩:=hP
  obtain ⟨p,hp⟩:=hget i (hsz▸hi)
  have e1:va=.str p.1 (f i).2.1/\vb=.str p.2 (f i).2.2:=by
   have h2:#[va,vb] = #[Value.str ((ps[i]?).getD ("","")).1 (f i).2.1,.str ((ps[i]?).getD ("","")).2 (f i).2.2]:=hv'
   rw [hp] at h2
   simp at h2
   exact h2
  obtain rfl:=e1.1; obtain rfl:=e1.2
  have up:∀b o,b≠I->hV.get? b=some o->t.heap.get? b=some o:=fun b o hb e=>hkp b (List.mem_range.mpr (Heap.lt_size e)) (fun z=>hb (List.mem_singleton.mp z)) o (hhref _ _ e)
  have ne1:mainGlobals≠I:=Nat.ne_of_lt (B.wok.mg.at' fun o e=>B.topk _ _ e (B.wok.ns_tb (OldK.refl _) B.wok.mg)).lt
  have ne2:builtinsNs≠I:=Nat.ne_of_lt (B.wok.mb.at' fun o e=>B.topk _ _ e (B.wok.ns_tb (OldK.refl _) B.wok.mb)).lt
  exact helt A' E' _ cv i p _ _ t m₂ hA hp hn hma hmb (hm3.at' fun o e=>up _ _ ne1 e) (hbl3.at' fun o e=>up _ _ ne2 e)
 ·have y:Ext W _ g ({ s with heap:=hZ,toks:=tk,gens:=s.gens.push gs }:Shared) g:=⟨fun b o e _=>hk3 b o e,fun K=>K.step_keeps hk3,fun _ h=>h,fun p hp=>⟨hk3 _ _ (B₃.gok p hp).1,(B₃.gok p hp).2⟩,fun _ h=>.inl h,rfl,fun b=>b.push hgb,fun t=>t.keeps hk3⟩
  rw [hsz] at hat
  rw [hsz,xH,List.length_range] at Wk
  refine hQ a _ (x3'.trans y) ⟨_,_,_,_,Wk,hat,fun i s' st=>st.1.typeIs,List.mem_cons_self,fun b hb=>?_,fun b hb=>?_⟩
  ·show b<hZ.objs.size
   rw [hsz5]
   rcases List.mem_cons.mp hb with rfl|hb
   ·exact Nat.lt_succ_self _
   ·rcases List.mem_cons.mp hb with rfl|hb
    ·exact Nat.lt_succ_of_lt hag
    ·exact Nat.lt_succ_of_lt (Nat.lt_trans (List.mem_range.mp hb) hag)
  ·have hz0:s.heap.objs.size<=hV.objs.size:=by
    have:(s.heap.push ({ cls:=.type "list_iterator",data:=.fields #[.ref x,.int 0 0] }:Obj)).objs.size<=hV.objs.size:=hz3
    rw [Heap.size_push] at this
    lia
   rcases List.mem_cons.mp hb with rfl|hb
   ·show _<hV.objs.size
    lia
   ·rw [List.mem_singleton.mp hb]
    show s.heap.objs.size-1<s.heap.objs.size
    lia
end
end
section
variable {W:Wd} {C:Cx} {n:Nat} {ρ ρ':aW}
section
variable {A:Around} {E:Value->Shared->Prop} {s:Shared}
theorem AQ {env:Env} {x:Str} {y:Str} {t:Tok} {m:Str->Option Value} {p p' pos:Pos} {Q:Value->Shared->Prop} (hk:env.scope.kind=.function) (hg:env.globals=mainGlobals) (hb:env.builtins=builtinsNs)
  (hlen:env.kindOf "len" = some .globalImplicit) (mg:W.mg "len" = none) (mb:W.mb "len" = some (.builtin "len")) (nm:s.heap.Ns mainGlobals W.mg) (nb:s.heap.Ns builtinsNs W.mb)
  (hx:env.kindOf x=some .local) (hn:s.heap.Ns env.locals m) (hv:m x=some (.str y t)) (hz:y.length<=16777216) (hd:(x==("__debug__":Str))=false)
  (hq:∀u tk,Q (.int y.length u) { s with toks:=tk }):wpAny (model W.prog W.w) A (eval (.Call (.Name "len" p) [.Name x p'] [] pos) env) Q E s:=by
 refine wpAny_Call_NameR (Name_function_global hk hlen (loadGlobal_builtin (by rw [hg]; exact nm) mg (by rw [hb]; exact nb) mb ?_) (rfl))
 refine callWith_builtin rfl (evalArgs_plain ?_)
 refine spliced_cons (wpAny_Name (wpAny_loadName_local hk hx hn hv ?_) hd)
 exact spliced_nil (P.len_str (by lia) (hq _ _))
end
end
section
variable {W:Wd} {C:Cx} {n:Nat} {ρ ρ':aW}
section
variable {prog:Program} {w:World} {A:Around} {E:Value->Shared->Prop} {s:Shared} {I:Addr} {fp wr:List Addr} {G:Array GenState->Array GenState->Prop} {P:Nat->Value->Prop} {St:Nat->Shared->Prop}
theorem wS (W:WalksS prog w A I fp wr G n P St):WalksS prog w A I fp wr G (n+1) (fun j v=>∃k,j=k+1/\P k v) (fun j s=>∃k,j=k+1/\St k s) where
 sub:=W.sub
 grefl:=W.grefl
 gtrans:=W.gtrans
 frame:=fun i s h' tk ⟨k,e,st⟩ ht hk=>⟨k,e,W.frame k s h' tk st ht hk⟩
 item:=fun i s Q E hi ⟨k,e,st⟩ hQ=>W.item k s Q E (by lia) st fun v s' hP st' hm=>hQ v s' ⟨k,e,hP⟩ ⟨k+1,by lia,st'⟩ hm
 done:=fun s Q E ⟨k,e,st⟩ hQ=>by
  obtain rfl:k=n:=by lia
  exact W.done s Q E st hQ
 self:=fun i s Q E ⟨k,e,st⟩ hQ=>W.self k s Q E st hQ
theorem mD (a:Int) (val:Nat->Int):∀n,preSum (fun j=>match j with|0=>a|k+1=>val k) (n+1)=a+preSum val n
 | 0=>by simp [preSum]
 | n+1=>by
  rw [preSum,mD a val n,preSum]
  simp only
  lia
theorem FR {t₀:Tok} {Q:Value->Shared->Prop} {val:Nat->Int} (Wk:WalksS prog w A.in1 I fp wr G n P St) (hst:St 0 s) (hfp:∀b∈fp,b<s.heap.objs.size)
  (hval:∀i v,P i v->∃t,v=.int (val i) t) (hQ:∀s' t',Moved wr G s s'->Q (.int (5+preSum val n) t') s') :
  wpAny (model prog w) A (call (.builtin "sum") [.ref I,.int 5 t₀]) Q E s:=by
 revert n prog w A E s I fp wr G P St t₀ Q val;refine no_implicit_lambda%(hK10 ?_);generalize (HK10 _).1=n,(HK10 _).2.1=prog,(HK10 _).2.2.1=w,(HK10 _).2.2.2.1=A,(HK10 _).2.2.2.2.1=E,(HK10 _).2.2.2.2.2.1=s,(HK10 _).2.2.2.2.2.2.1=I,(HK10 _).2.2.2.2.2.2.2.1=fp,(HK10 _).2.2.2.2.2.2.2.2.1=wr,(HK10 _).2.2.2.2.2.2.2.2.2=G;refine no_implicit_lambda%(hK5 ?_);generalize (HK5 _).1=P,(HK5 _).2.1=St,(HK5 _).2.2.1=t₀,(HK5 _).2.2.2.1=Q,(HK5 _).2.2.2.2=val;intro Wk hst hfp hval hQ
 refine call_function_tree F.kind_sum F.plain_sum F.entry_sum (by unfold argsOk; kernel_rfl) ?_
 delta Builtin.«sum»
 dsimp only
 refine wpAny_ite_false rfl ?_
 refine wpAny_bind (wpAny_of_eq (show Builtin.Builtins.bindParams "sum" ["start"] 0 ⟨[.int 5 t₀],[]⟩=pure [some (.int 5 t₀)] from by kernel_rfl) ?_)
 refine wpAny_bind (Wk.self 0 _ _ _ hst ?_)
 dsimp only
 refine wpAny_ite_true rfl ?_
 refine wpAny_bind (wpAny_rule (wpAny_bind (wpAny_mkInt (wpAny_bind (wpAny_pure ?_)))))
 rw [List.forIn_cons]
 refine wpAny_bind (wpAny_bind (wpAny_bind (wpAny_isInstance (T:="int") (b:=false) (typeIs_int _ _ _) PySem.sub_int_str ?_)))
 refine wpAny_ite_false rfl ?_
 refine wpAny_pure (wpAny_bind (wpAny_bind (wpAny_isInstance (T:="int") (b:=false) (typeIs_int _ _ _) PySem.sub_int_bytes ?_)))
 refine wpAny_ite_false rfl ?_
 refine wpAny_pure (wpAny_bind (wpAny_bind (wpAny_isInstance (T:="int") (b:=false) (typeIs_int _ _ _) PySem.sub_int_bytearray ?_)))
 refine wpAny_ite_false rfl ?_
 refine wpAny_pure (wpAny_pure ?_)
 refine wpAny_bind (wpAny_newObj_type ?_)
 have hSf:s.heap.objs.size∉fp:=fun hm=>Nat.lt_irrefl _ (hfp _ hm)
 refine wpAny_pure ⟨plainId_quiet F.plain_sum_loop _,codeAny_sum_loopAnyS (wS Wk) (fun j=>match j with|0=>5|k+1=>val k) (fun i v ⟨k,e,hP⟩=>by subst e; exact hval k v hP) s.heap.objs.size hSf n 1 _ s.toks 0 0 (.inl rfl) (by lia) (by lia)
  ⟨0,rfl,Wk.frame 0 s _ _ hst (by first|exact Nat.le_refl _|exact Nat.le_succ _|lia) fun b _ o e=>Heap.get?_push_of_some _ e⟩ (Heap.get?_push_size _ rfl) fun s' t' hm=>?_⟩
 rw [mD]
 exact hQ s' t' (hm.drop_new (by first|exact Nat.le_refl _|exact Nat.le_succ _|lia))
end
end
section
variable {W:Wd} {C:Cx} {n:Nat} {ρ ρ':aW}
theorem F0 {hE h h':Heap} (K:OldK hE h) (hs:∀b o₀ o,hE.get? b=some o₀->h.get? b=some o->h'.get? b=some o):OldK hE h':=by
 refine ⟨fun b o e=>?_,fun b o e=>let ⟨o',ho'⟩:=K.there b o e; ⟨o',hs b _ _ e ho'⟩⟩
 rcases K.old b o e with x|⟨t,hc,vs,more,hv,x⟩|⟨rfl,hc,⟨o',es,n,ho',r⟩,z⟩
 ·exact .inl (hs b _ _ e x)
 ·exact .inr (.inl ⟨t,hc,vs,more,hv,hs b _ _ e x⟩)
 ·exact .inr (.inr ⟨rfl,hc,⟨o',es,n,hs _ _ _ e ho',r⟩,fun key=>by rw [OldK.staticOf_congr ((hs _ _ _ e ho').trans ho'.symm) key]; exact z key⟩)
theorem Ext.moved {s s5 s':Shared} {g:Gh} {wr:List Addr} {gi:Nat} (B:Base W s g) (x:Ext W s g s5 g) (hm:Moved wr (GenOnlyQ gi) s5 s') (hwr:∀b∈wr,s.heap.objs.size-1<b):Ext W s g s' g:=by
 revert W s s5 s' g wr gi;refine no_implicit_lambda%(hK7 ?_);generalize (HK7 _).1=W,(HK7 _).2.1=s,(HK7 _).2.2.1=s5,(HK7 _).2.2.2.1=s',(HK7 _).2.2.2.2.1=g,(HK7 _).2.2.2.2.2.1=wr,(HK7 _).2.2.2.2.2.2=gi;intro B x hm hwr
 have nw:∀b o,s.heap.get? b=some o->b∉wr:=fun b o e hb=>by
  have h1:s.heap.objs.size-1<b:=hwr b hb
  have h2:b<s.heap.objs.size:=Heap.lt_size e
  exact absurd h1 (Nat.not_lt.mpr (Nat.le_sub_one_of_lt h2))
 have top:∀b o₀,W.top.get? b=some o₀->b∉wr:=fun b o₀ e=>by
  obtain ⟨o',e'⟩:=B.old.there _ _ e
  exact nw _ _ e'
 refine ⟨fun b o e hb=>hm.heap b o (nw _ _ e) (x.keep b o e hb),fun K=>F0 (x.old K) fun b o₀ o e e'=>hm.heap b o (top _ _ e) e',fun _ h=>h,fun p hp=>⟨hm.heap _ _ (nw _ _ (B.gok p hp).1) (x.ok p hp).1,(x.ok p hp).2⟩,fun _ h=>.inl h,hm.os.trans x.os,fun b=>AllBare.movedS (x.bare b) hm,fun t b hb c ps0 h1 h2=>?_⟩
 obtain ⟨ps,hq⟩:=x.tabs t b hb c ps0 h1 h2; have r1:=hq.1; have r2:=hq.2
 obtain ⟨⟨oc,vs,e1,_⟩,e2⟩:=h2
 have kc:∀o,s5.heap.get? c=some o->s'.heap.get? c=some o:=fun o e=>hm.heap _ _ (top _ _ e1) e
 have kb:∀o,s5.heap.get? b=some o->s'.heap.get? b=some o:=fun o e=>hm.heap _ _ (top _ _ e2) e
 refine ⟨ps,?_,?_⟩
 ·obtain ⟨o,vs,file,tf,flags,tg,inF,text,tt,op,a,b1,b2,b3,b4,b5,b6,b7,b8⟩:=r1
  exact ⟨o,vs,file,tf,flags,tg,inF,text,tt,op,kc _ a,b1,b2,b3,b4,b5,b6,kb _ b7,b8⟩
 ·obtain ⟨⟨o,vs,a,r⟩,q⟩:=r2
  exact ⟨⟨o,vs,kc _ a,r⟩,kb _ q⟩
structure GAt (W:Wd) (f:Addr) (st:Stmt):Prop where
 fd:∃fd,MDef W f fd (dW st) []/\fd.scope=aR st/\(∀v:Value,bindArgs fd ⟨[v],[]⟩=pure [(("self":Str),v)])/\∃c P,fd.code=.ref c/\TabAt W c P
noncomputable def lens (ps:List (Str×Str)):Int:=(ps.map fun p=>((p.1.length+p.2.length:Nat):Int)).sum
noncomputable def OP:Scope:={ kind:=.function,names:=[(".0",.local),("fws",.local),("part",.local),("len",.globalImplicit)],isGenerator:=true,isCoroutine:=false }
section
variable {K:Frag} {A:Around} {E:Value->Shared->Prop} {s:Shared} {g:Gh} {x d T f:Addr} {o:Obj} {R:Result->Shared->Prop}
theorem MJ {vs:List Value} {m:Nat} {ps:List (Str×Str)} (U:AccAt W K T) (SI:SetIn K T) (Bt:BltAt W) (G:GAt W f (oH 4)) (B:Base W s g) (hR:Room 2 A) (mgS:W.mg "sum" = none) (mbS:W.mb "sum" = some (.builtin "sum")) (mgL:W.mg "len" = none) (mbL:W.mb "len" = some (.builtin "len"))
  (hx:s.heap.get? x=some (cV (some (.ref T,d,o)) vs.toArray m)) (hd:s.heap.get? d=some o) (ho:AccO o) (hv:DatAll g vs (ps.map fun p=>.tuple [.str p.1,.str p.2])) (hz:∀p∈ps,p.1.length<=100000/\p.2.length<=100000)
  (h:∀s' t,Ext W s g s' g->R (.ok (.ret (.int (5+lens ps) t))) s'):codeAny (model W.prog W.w) A (.call (.ref f) ⟨[.ref x],[]⟩) R s:=by
 revert W K A s g x d T f o R vs m ps;refine no_implicit_lambda%(hK10 ?_);generalize (HK10 _).1=W,(HK10 _).2.1=K,(HK10 _).2.2.1=A,(HK10 _).2.2.2.1=s,(HK10 _).2.2.2.2.1=g,(HK10 _).2.2.2.2.2.1=x,(HK10 _).2.2.2.2.2.2.1=d,(HK10 _).2.2.2.2.2.2.2.1=T,(HK10 _).2.2.2.2.2.2.2.2.1=f,(HK10 _).2.2.2.2.2.2.2.2.2=o;refine no_implicit_lambda%(hK4 ?_);generalize (HK4 _).1=R,(HK4 _).2.1=vs,(HK4 _).2.2.1=m,(HK4 _).2.2.2=ps;intro U SI Bt G B hR mgS mbS mgL mbL hx hd ho hv hz h
 obtain ⟨fd,D,esc,hb,c,P,hc,tab⟩:=G.fd
 refine jB D B hR.lt (hb (.ref x)) (fun y hy=>?_) fun hE L hL hns hk=>wpAt_of_wpAny ?_
 ·rw [List.mem_singleton.mp hy,esc]; rfl
 have kd:∀(x:Str) k,(aR (oH 4)).names.lookup x=some k->(callEnv fd L f).kindOf x=some k:=fun x k e=>by show fd.scope.names.lookup _=_; rw [esc]; exact e
 revert fd c P hE L;refine no_implicit_lambda%(hK ?_);generalize HK _=fd;intro D esc hb;refine no_implicit_lambda%(hK2 ?_);generalize (HK2 _).1=c,(HK2 _).2=P;intro hc tab;refine no_implicit_lambda%(hK2 ?_);generalize (HK2 _).1=hE,(HK2 _).2=L;intro hL hns hk kd
 have x₀:Ext W s g { s with heap:=hE,toks:=s.toks+1 } g:=Ext.of_keeps (tk:=s.toks+1) B.gok hk
 have B₀:=B.step x₀
 have nm:∀ {s':Shared},Base W s' g->s'.heap.Ns mainGlobals W.mg:=fun B'=>B'.wok.mg.at' fun o e=>B'.topk _ _ e (B'.wok.ns_tb (OldK.refl _) B'.wok.mg)
 have nb:∀ {s':Shared},Base W s' g->s'.heap.Ns builtinsNs W.mb:=fun B'=>B'.wok.mb.at' fun o e=>B'.topk _ _ e (B'.wok.ns_tb (OldK.refl _) B'.wok.mb)
 show wpAny _ _ (execs [.Return (some (.Call (.Name "sum" _) [.GeneratorExp (.BinOp (.Call (.Name "len" _) [.Name "fws" _] [] _) .Add (.Call (.Name "len" _) [.Name "part" _] [] _) _) [⟨.Tuple [.Name "fws" _,.Name "part" _] _ _,.Name "self" _,[],0⟩] OP _,.Attribute (.Name "self" _) "_initial_size" _] [] _)) _] _) _ _ _
 refine wpAny_execs_cons (wpAny_Return_some ?_)
 refine wpAny_Call_NameR (Name_function_global D.kind (kd _ _ rfl) (loadGlobal_builtin (by show hE.Ns fd.globals _; rw [D.glob]; exact nm B₀) mgS (by show hE.Ns fd.builtins _; rw [D.blt]; exact nb B₀) mbS ?_) (rfl))
 refine callWith_builtin rfl (evalArgs_plain (spliced_cons ?_))
 have hx0:=hk _ _ hx
 have hd0:=hk _ _ hd
 have hsl:∀Q':Value->Shared->Prop,∀E':Value->Shared->Prop,∀s':Shared,∀p,s'.heap.Ns L (fun y=>([("self",Value.ref x)]:List (Str×Value)).reverse.lookup y)->Q' (.ref x) s'->wpAny (model W.prog W.w) (A.deeper (callEnv fd L f)) (eval (.Name "self" p) (callEnv fd L f)) Q' E' s':=
  fun Q' E' s' p hn q=>wpAny_Name (wpAny_loadName_local D.kind (kd _ _ rfl) hn rfl q) (rfl)
 refine xT (F:=fun i y=>∀p,ps[i]? = some p->∃t,y=.int ((p.1.length+p.2.length:Nat):Int) t) U Bt tab B₀ (hR.deeper _).handled (hR.deeper (callEnv fd L f)).lt hc D.glob hx0 hd0 hv (fun Q' q=>hsl _ _ _ _ hns q) rfl rfl (by decide) rfl rfl rfl (by decide) rfl ?_ ?_ (fun _=>rfl)
 ·intro A' E' L' code i p t u s₂ m₂ hA hp hn ha hb nm' nb'
  have hpm:=List.mem_of_getElem? hp
  refine wpAny_BinOp (AQ rfl D.glob rfl rfl mgL mbL nm' nb' rfl hn ha (by have:=(hz p hpm).1; lia) (rfl) fun u1 tk1=>?_)
  refine AQ (s:={ s₂ with toks:=tk1 }) rfl D.glob rfl rfl mgL mbL nm' nb' rfl hn hb (by have:=(hz p hpm).2; lia) (rfl) fun u2 tk2=>?_
  refine PySem.P.add_int ⟨fun q hq=>?_,_,_,rfl,fun _ _ e=>e⟩
  rw [hp] at hq; cases hq
  exact ⟨_,rfl⟩
 ·intro a s5 x5 Gn
  revert a s5;refine no_implicit_lambda%(hK2 ?_);generalize (HK2 _).1=a,(HK2 _).2=s5;intro x5 Gn
  have B5:=B₀.step x5
  have hL5:s5.heap.Ns L (fun y=>([("self",Value.ref x)]:List (Str×Value)).reverse.lookup y):=Ns.ext B₀ x5 hns
  have hxt:∀b o,hE.get? b=some o->(∀fs,o.data≠.fields fs)->s5.heap.get? b=some o:=fun b o e hf=>x5.keep _ _ e (B₀.wok.data_tb B₀.old e hf)
  refine spliced_cons ?_
  have hod:∀fs,o.data≠.fields fs:=fun fs e=>by
   obtain ⟨t,ht⟩:=ho.size
   unfold lookIn at ht
   rw [e] at ht
   exact none_ ht
  have hx5:=hxt _ _ hx0 (by rw [a6]; intro _ z; cases z)
  have hd5:=hxt _ _ hd0 hod
  obtain ⟨t5,ht5⟩:=ho.size
  revert t5;refine no_implicit_lambda%(hK ?_);generalize HK _=t5;intro ht5
  obtain ⟨cd,hq⟩:=SI.cd; have hcd:=hq.1; have hmro:=hq.2.1; have hhas:=hq.2.2
  refine Attribute_name (hsl _ _ _ _ hL5 ?_)
  refine yF (od:=some o) (U.In B5) (dR hx5 hd5) U.ga U.gx U.lst (findObj_own (by unfold hasDictIn; rw [hcd]; exact hhas) SI.no rfl ht5) rfl ?_
  refine spliced_nil ?_
  obtain ⟨fp,wr,gi,St,W4,hst,hT,ha,hfp,hwr⟩:=Gn
  refine FR (s:={ s5 with toks:=s5.toks+1 }) (val:=fun j=>(ps.map fun p=>((p.1.length+p.2.length:Nat):Int)).getD j 0) W4.in4_1 (W4.frame 0 s5 s5.heap (s5.toks+1) hst (Nat.le_succ _) fun _ _ _ e=>e) hfp (fun i v hq=>?_) fun s' t' hm=>?_
  ·obtain ⟨k,e,hF⟩:=hq
   obtain ⟨hk1,hk2⟩:=List.getElem?_eq_some_iff.mp e
   rw [List.length_range] at hk1
   rw [List.getElem_range] at hk2
   subst hk2
   obtain ⟨t,ht⟩:=hF _ (List.getElem?_eq_getElem hk1)
   refine ⟨t,?_⟩
   rw [ht]
   congr 1
   simp only [List.getD_eq_getElem?_getD,List.getElem?_map,List.getElem?_eq_getElem hk1]
   rfl
  ·have e:=preSum_getD (ps.map fun p=>((p.1.length+p.2.length:Nat):Int)) ps.length
   rw [List.take_of_length_le (by simp)] at e
   rw [e]
   have xm:Ext W { s with heap:=hE,toks:=s.toks+1 } g s' g:=Ext.moved B₀ (x5.trans (Ext.toks (tk:=s5.toks+1) B5.gok)) hm hwr
   exact h _ _ (x₀.trans xm)
end
end
section
variable {W:Wd} {C:Cx} {n:Nat} {ρ ρ':aW}
noncomputable def QC:Scope:=match (oH 5) with | .FunctionDef (body:=[.Return (some (.Call _ [.GeneratorExp _ _ sc _] _ _)) _]) .. => sc|_=>default
noncomputable def gO (ps:List (Str×Str)):List Str:=ps.map fun p=>Txt.join "" [p.1,p.2]
section
variable {K:Frag} {A:Around} {E:Value->Shared->Prop} {s:Shared} {g:Gh} {x d T f:Addr} {o:Obj} {R:Result->Shared->Prop}
theorem LN {vs:List Value} {m:Nat} {ps:List (Str×Str)} {te:Tok} (U:AccAt W K T) (Bt:BltAt W) (G:GAt W f (oH 5)) (B:Base W s g) (hR:Room 2 A) (mgE:W.mg "EMPTYSTRING" = some (.str "" te))
  (hx:s.heap.get? x=some (cV (some (.ref T,d,o)) vs.toArray m)) (hd:s.heap.get? d=some o) (hv:DatAll g vs (ps.map fun p=>.tuple [.str p.1,.str p.2])) (hz:∀p∈ps,p.1.length<=100000/\p.2.length<=100000)
  (hok:JoinOk "" (gO ps)=true) (hn:ps.length<=sizeLine)
  (h:∀s' t,Ext W s g s' g->R (.ok (.ret (.str (Txt.join "" (gO ps)) t))) s'):codeAny (model W.prog W.w) A (.call (.ref f) ⟨[.ref x],[]⟩) R s:=by
 revert W K A s g x d T f o R vs m ps te;refine no_implicit_lambda%(hK10 ?_);generalize (HK10 _).1=W,(HK10 _).2.1=K,(HK10 _).2.2.1=A,(HK10 _).2.2.2.1=s,(HK10 _).2.2.2.2.1=g,(HK10 _).2.2.2.2.2.1=x,(HK10 _).2.2.2.2.2.2.1=d,(HK10 _).2.2.2.2.2.2.2.1=T,(HK10 _).2.2.2.2.2.2.2.2.1=f,(HK10 _).2.2.2.2.2.2.2.2.2=o;refine no_implicit_lambda%(hK5 ?_);generalize (HK5 _).1=R,(HK5 _).2.1=vs,(HK5 _).2.2.1=m,(HK5 _).2.2.2.1=ps,(HK5 _).2.2.2.2=te;intro U Bt G B hR mgE hx hd hv hz hok hn h
 obtain ⟨fd,D,esc,hb,c,P,hc,tab⟩:=G.fd
 refine jB D B hR.lt (hb (.ref x)) (fun y hy=>?_) fun hE L hL hns hk=>wpAt_of_wpAny ?_
 ·rw [List.mem_singleton.mp hy,esc]; rfl
 have kd:∀(x:Str) k,(aR (oH 5)).names.lookup x=some k->(callEnv fd L f).kindOf x=some k:=fun x k e=>by show fd.scope.names.lookup _=_; rw [esc]; exact e
 revert fd c P hE L;refine no_implicit_lambda%(hK ?_);generalize HK _=fd;intro D esc hb;refine no_implicit_lambda%(hK2 ?_);generalize (HK2 _).1=c,(HK2 _).2=P;intro hc tab;refine no_implicit_lambda%(hK2 ?_);generalize (HK2 _).1=hE,(HK2 _).2=L;intro hL hns hk kd
 have x₀:Ext W s g { s with heap:=hE,toks:=s.toks+1 } g:=Ext.of_keeps (tk:=s.toks+1) B.gok hk
 have B₀:=B.step x₀
 have nm:∀ {s':Shared},Base W s' g->s'.heap.Ns mainGlobals W.mg:=fun B'=>B'.wok.mg.at' fun o e=>B'.topk _ _ e (B'.wok.ns_tb (OldK.refl _) B'.wok.mg)
 show wpAny _ _ (execs [.Return (some (.Call (.Attribute (.Name "EMPTYSTRING" _) "join" _) [.GeneratorExp (.Call (.Attribute (.Name "EMPTYSTRING" _) "join" _) [.Tuple [.Name "fws" _,.Name "part" _] _ _] [] _) [⟨.Tuple [.Name "fws" _,.Name "part" _] _ _,.Name "self" _,[],0⟩] QC _] [] _)) _] _) _ _ _
 refine wpAny_execs_cons (wpAny_Return_some ?_)
 refine f9 rfl rfl rfl (Name_function_global D.kind (kd _ _ rfl) (loadGlobal_global (by show hE.Ns fd.globals _; rw [D.glob]; exact nm B₀) mgE fun pl=>?_) (by decide))
 refine GM.join ?_
 refine callWith_builtin rfl (evalArgs_plain (spliced_cons ?_))
 have hx0:=hk _ _ hx
 have hd0:=hk _ _ hd
 have hsl:∀Q':Value->Shared->Prop,∀E':Value->Shared->Prop,∀s':Shared,∀p,s'.heap.Ns L (fun y=>([("self",Value.ref x)]:List (Str×Value)).reverse.lookup y)->Q' (.ref x) s'->wpAny (model W.prog W.w) (A.deeper (callEnv fd L f)) (eval (.Name "self" p) (callEnv fd L f)) Q' E' s':=
  fun Q' E' s' p hn q=>wpAny_Name (wpAny_loadName_local D.kind (kd _ _ rfl) hn rfl q) (rfl)
 refine xT (F:=fun i y=>∀p,ps[i]? = some p->∃t,y=.str (Txt.join "" [p.1,p.2]) t) U Bt tab B₀ (hR.deeper _).handled (hR.deeper (callEnv fd L f)).lt hc D.glob hx0 hd0 hv (fun Q' q=>hsl _ _ _ _ hns q) rfl rfl (by decide) rfl rfl rfl (by decide) rfl ?_ ?_ (fun _=>rfl)
 ·intro A' E' L' code i p t u s₂ m₂ hA hp hn ha hb nm' nb'
  revert pl A' E' L' code i p t u s₂ m₂;refine no_implicit_lambda%(hK10 ?_);generalize (HK10 _).1=pl,(HK10 _).2.1=A',(HK10 _).2.2.1=E',(HK10 _).2.2.2.1=L',(HK10 _).2.2.2.2.1=code,(HK10 _).2.2.2.2.2.1=i,(HK10 _).2.2.2.2.2.2.1=p,(HK10 _).2.2.2.2.2.2.2.1=t,(HK10 _).2.2.2.2.2.2.2.2.1=u,(HK10 _).2.2.2.2.2.2.2.2.2=s₂;refine no_implicit_lambda%(hK ?_);generalize HK _=m₂;intro hA hp hn ha hb nm' nb'
  have hpm:=List.mem_of_getElem? hp
  refine f9 rfl rfl rfl (Name_function_global rfl rfl (loadGlobal_global (by show s₂.heap.Ns fd.globals _; rw [D.glob]; exact nm') mgE fun pl=>?_) (by decide))
  refine GM.join ?_
  refine callWith_builtin rfl (evalArgs_plain (spliced_cons (Tuple_ (k:=0) ?_)))
  refine spliced_cons (wpAny_Name (wpAny_loadName_local rfl rfl hn ha ?_) (rfl))
  refine spliced_cons (wpAny_Name (wpAny_loadName_local rfl rfl hn hb ?_) (rfl))
  refine spliced_nil (wpAny_newObj_type ?_ (by size_fits))
  refine spliced_nil (join_tupleW (ys:=[p.1,p.2]) ⟨_,Heap.get?_push_size _ rfl,rfl,_,rfl⟩ (.cons _ _ (.cons _ _ .nil)) (by decide) (by have:=hz p hpm; simp; lia) fun t' k=>?_)
  refine ⟨fun q hq=>?_,_,_,rfl,fun b o e=>Heap.get?_push_of_some _ e⟩
  rw [hp] at hq; cases hq
  exact ⟨_,rfl⟩
 ·intro a s5 x5 Gn
  revert a s5;refine no_implicit_lambda%(hK2 ?_);generalize (HK2 _).1=a,(HK2 _).2=s5;intro x5 Gn
  have B5:=B₀.step x5
  refine spliced_nil ?_
  obtain ⟨fp,wr,gi,St,W4,hst,hT,ha,hfp,hwr⟩:=Gn
  refine SC.joinGen W4.in4_2 hT hst hfp ha (fun i v ⟨k,e,hF⟩=>?_) (fun s' l hm hacc=>?_) hn
  ·obtain ⟨hk1,hk2⟩:=List.getElem?_eq_some_iff.mp e
   rw [List.length_range] at hk1
   rw [List.getElem_range] at hk2
   subst hk2
   obtain ⟨t,ht⟩:=hF _ (List.getElem?_eq_getElem hk1)
   exact ⟨_,t,ht⟩
  ·have hl:l.map (·.1)=gO ps:=by
    have hsz:l.length=ps.length:=by simpa [strValues] using hacc.1
    apply List.ext_getElem?
    intro j
    by_cases hj:j<ps.length
    ·have hj':j<l.length:=hsz▸hj
     obtain ⟨k,e,hF⟩:=hacc.2 j (.str l[j].1 l[j].2) (by simp [strValues,List.getElem?_eq_getElem hj'])
     obtain ⟨hk1,hk2⟩:=List.getElem?_eq_some_iff.mp e
     rw [List.getElem_range] at hk2
     subst hk2
     obtain ⟨t,ht⟩:=hF _ (List.getElem?_eq_getElem hj)
     injection ht with h1 _
     unfold gO
     rw [List.getElem?_map,List.getElem?_map,List.getElem?_eq_getElem hj',List.getElem?_eq_getElem hj]
     simp [h1]
    ·rw [List.getElem?_eq_none (by simpa [hsz] using Nat.le_of_not_lt hj),List.getElem?_eq_none (by unfold gO; simpa using Nat.le_of_not_lt hj)]
   rw [hl]
   refine ⟨hok,fun t' k=>h _ _ (x₀.trans ?_)⟩
   have xm:Ext W { s with heap:=hE,toks:=s.toks+1 } g s' g:=Ext.moved B₀ x5 hm hwr
   exact xm.trans (Ext.toks (tk:=k) (B₀.step xm).gok)
end
end
section
variable {W:Wd} {C:Cx} {n:Nat} {ρ ρ' ρ'':aW} {P:Fl->aW->Prop}
structure PageW (W:Wd) (K:Frag) (T cc fI fPush fPop fLen fStr fPc:Addr):Prop where
 pop:PopAt W K T cc fPc
 set:SetIn K T
 make:MakeIn K T fI
 mI:IAt W fI [("__class__",cc)]
 mPush:MAt W fPush (oH 1) [] ["self","fws","string"]
 mPop:MAt W fPop (oH 3) [("__class__",cc)] ["self"]
 gLen:GAt W fLen (oH 4)
 gStr:GAt W fStr (oH 5)
 hPush:findIn K (.ref T) "push" = some (some (.ref fPush))/\typeIn K (.ref fPush)=some (.type "function")
 hPop:findIn K (.ref T) "pop" = some (some (.ref fPop))/\typeIn K (.ref fPop)=some (.type "function")
 hLen:findIn K (.ref T) "__len__" = some (some (.ref fLen))/\typeIn K (.ref fLen)=some (.type "function")
 hStr:findIn K (.ref T) "__str__" = some (some (.ref fStr))/\isFn K (.ref fStr)=true
 lpop:alongIn K "pop" [.type "list",.type "object"]=some (some (.builtin "list.pop"))
 blt:BltAt W
 keep:keepIn K (.ref T)=true
 mg:W.mg "_Accumulator" = some (.ref T)
 mgE:∃t,W.mg "EMPTYSTRING" = some (.str "" t)
 sum:W.mg "sum" = none/\W.mb "sum" = some (.builtin "sum")
variable {K:Frag} {T cc fI fPush fPop fLen fStr fPc:Addr}
theorem Room.in1 {A:Around} (r:Room (n+1) A):Room n A.in1:=by
 refine ⟨r.handled,?_,?_⟩
 ·have:=r.depth
  show A.depth+n<=900
  lia
 ·have:=r.units
  show A.units+1+100*n<=9500
  lia
noncomputable abbrev LH (ps:List (Str×Str)):List Dat:=ps.map fun p=>.tuple [.str p.1,.str p.2]
noncomputable abbrev jT (T a d:Addr) (o:Obj) (ps:List (Str×Str)):Bd:=.ownK a (some (.ref T,d,o)) (LH ps)
theorem St.page {s:Shared} {g:Gh} (S:St W C ρ s g) {x:Str} {a d:Addr} {o:Obj} {ds:List Dat} (h:Has ρ x (.ownK a (some (.ref T,d,o)) ds)) :
  eT C.env s.heap x (.ref a)/\∃vs m,s.heap.get? a=some (cV (some (.ref T,d,o)) vs.toArray m)/\DatAll g vs ds/\s.heap.get? d=some o:=by
 revert S h;revert W C ρ T s g x a d o ds;refine no_implicit_lambda%(hK10 ?_);generalize (HK10 _).1=W,(HK10 _).2.1=C,(HK10 _).2.2.1=ρ,(HK10 _).2.2.2.1=T,(HK10 _).2.2.2.2.1=s,(HK10 _).2.2.2.2.2.1=g,(HK10 _).2.2.2.2.2.2.1=x,(HK10 _).2.2.2.2.2.2.2.1=a,(HK10 _).2.2.2.2.2.2.2.2.1=d,(HK10 _).2.2.2.2.2.2.2.2.2=o;refine no_implicit_lambda%(hK ?_);generalize HK _=ds;intro S h
 obtain ⟨h1,⟨vs,m,h2,h3⟩,h4,h5,h6⟩:=S.vars _ _ h.mem
 exact ⟨h1,vs,m,h2,h3,(S.base.gok _ (h6 _ _ _ rfl).1).1⟩
theorem kD (U:PageW W K T cc fI fPush fPop fLen fStr fPc) (GB:Glb W) {x:Str} {p p' pos:Pos} {a d:Addr} {o:Obj} {ps:List (Str×Str)} (h:Has ρ x (jT T a d o ps)) (hz:∀p∈ps,p.1.length<=100000/\p.2.length<=100000)
  (hok:JoinOk "" (gO ps)=true) (hn:ps.length<=sizeLine) (hk:C.env.kindOf "str" = some .globalImplicit) (hd:autoParam ((x==("__debug__":Str))=false) Mine.aC._auto_1) :
  Ev W C (n+5) ρ (.Call (.Name "str" p) [.Name x p'] [] pos) (.str (Txt.join "" (gO ps))):=fun A s g E R S=>by
 obtain ⟨hv,vs,m,hq⟩:=S.page h; have hx:=hq.1; have hD:=hq.2.1; have ho:=hq.2.2
 obtain ⟨te,hte⟩:=U.mgE
 refine wpAny_Call_NameR (cY S GB.str.1 GB.str.2 hk (rfl) ?_)
 refine PySem.callWith_type rfl (evalArgs_plain (spliced_cons (wpAny_Name (bH S.kind hv ?_) hd)))
 refine spliced_nil ?_
 have R2:Room 3 A.in1.in1:=(R.mono (by lia:5<=n+5)).in1.in1
 refine kso_call (by have:=R2.units; show A.in1.in1.units<9900; lia) (U.pop.sup.acc.In S.base) (dR hx ho) U.hStr.1 U.hStr.2 (wpAny_call ?_)
 refine LN U.pop.sup.acc U.blt U.gStr S.base (R2.mono (by lia)) hte hx ho hD hz hok hn fun s' t x'=>?_
 exact ⟨g,x',.str _ _⟩
theorem xI (U:PageW W K T cc fI fPush fPop fLen fStr fPc) (GB:Glb W) {x:Str} {p p' pos:Pos} {a d:Addr} {o:Obj} {ps:List (Str×Str)} (h:Has ρ x (jT T a d o ps)) (ao:AccO o) (hz:∀p∈ps,p.1.length<=100000/\p.2.length<=100000)
  (hl:0<=5+lens ps/\5+lens ps<2^63) (hk:C.env.kindOf "len" = some .globalImplicit) (hd:autoParam ((x==("__debug__":Str))=false) Mine.aC._auto_1) :
  Ev W C (n+5) ρ (.Call (.Name "len" p) [.Name x p'] [] pos) (.int (5+lens ps)):=fun A s g E R S=>by
 obtain ⟨hv,vs,m,hq⟩:=S.page h; have hx:=hq.1; have hD:=hq.2.1; have ho:=hq.2.2
 refine wpAny_Call_NameR (cY S GB.len.1 GB.len.2 hk (rfl) ?_)
 refine callWith_builtin rfl (evalArgs_plain (spliced_cons (wpAny_Name (bH S.kind hv ?_) hd)))
 refine spliced_nil ?_
 have R2:Room 4 A.in1:=(R.mono (by lia:5<=n+5)).in1
 refine Calls.call_function_entry kind_len plain_len entry_len (args_len1 _) ?_
 unfold Builtin.«len»
 refine wpAny_bind (m:=oneArg "len" _) (wpAny_pure ?_)
 refine wpAny_bind (m:=callSpecial? (.ref a) (Str.ofString "__len__")) (special_fn (U.pop.sup.acc.In S.base) (dR hx ho) U.hLen.1 U.hLen.2 (wpAny_call ?_))
 refine MJ U.pop.sup.acc U.set U.blt U.gLen S.base (R2.mono (by lia)) U.sum.1 U.sum.2 GB.len.1 GB.len.2 hx ho ao hD hz fun s' t x'=>?_
 refine wpAny_bind (wpAny_holding (wpAny_pure ?_))
 refine wpAny_bind (wpAny_letGo ?_)
 rw [if_neg (by lia)]
 show wpAny _ _ (if 5+lens ps>=2^63 then _ else _) _ _ _
 rw [if_neg (by lia)]
 exact wpAny_bind (wpAny_mkInt (wpAny_pure ⟨_,rfl,g,x'.trans (Ext.toks (S.base.step x').gok),.int _ _⟩))
theorem yI (U:PageW W K T cc fI fPush fPop fLen fStr fPc) {x:Str} {p apos pos:Pos} {a d:Addr} {o:Obj} {ps:List (Str×Str)} (h:Has ρ x (jT T a d o ps)) (ao:AccO o) (hline:autoParam ((apos.endLine==pos.line)=true) Mine.dG._auto_1) (hd:autoParam ((x==("__debug__":Str))=false) Mine.aC._auto_1) :
  Ev W C (n+1) ρ (.Call (.Attribute (.Name x p) "part_count" apos) [] [] pos) (.int ps.length):=fun A s g E R S=>by
 obtain ⟨hv,vs,m,hq⟩:=S.page h; have hx:=hq.1; have hD:=hq.2.1; have ho:=hq.2.2
 refine A7 U.pop S.base R.lt ao hx ho (fun Q' q=>wpAny_Name (bH S.kind hv q) hd) rfl hline fun h' tk t k=>⟨g,Ext.of_keeps S.base.gok k,?_⟩
 have e:vs.toArray.size=ps.length:=by rw [List.size_toArray,hD.length,List.length_map]
 rw [e]
 exact .int _ _
end
section
variable {W:Wd} {C:Cx} {n:Nat} {ρ ρ' ρ'':aW} {P:Fl->aW->Prop} {K:Frag} {T cc fI fPush fPop fLen fStr fPc:Addr}
theorem FM (U:PageW W K T cc fI fPush fPop fLen fStr fPc) {x:Str} {p apos pos:Pos} {es:List Expr} {a d:Addr} {o:Obj} {ps:List (Str×Str)} {y z:Str} (h:Has ρ x (jT T a d o ps)) (ao:AccO o) (he:w6 W C (n+1) ρ es [.str y,.str z]) (hl:ps.length<=1000)
  (hp:Put x (some (jT T a d o (ps++[(y,z)]))) ρ ρ') (hfew:autoParam (∀env,((backTo pos (starEach es env)).all (fun x => !x.1)&&(backToKw pos (keywordEach [] env)).all (fun x=>x.1.isSome)
   && decide (es.length+([]:List Keyword).length+(if ([]:List Keyword).isEmpty then 0 else 1)<30))=true) Mine.aA._auto_1) (hline:autoParam ((apos.endLine==pos.line)=true) Mine.dG._auto_1)
  (hsp:autoParam (∀env pos,∃t ts,backTo pos (starEach es env)=(false,t)::ts) Mine.OC._auto_1) (hd:autoParam ((x==("__debug__":Str))=false) Mine.aC._auto_1) :
  y2 W C (n+1) ρ ρ' (.Call (.Attribute (.Name x p) "push" apos) es [] pos) .none:=fun A s g E R S=>by
 revert U h ao he hl hp hfew hline hsp hd R S;revert W C n ρ ρ' K T cc fI fPush fPop fLen fStr fPc x p apos pos es a d o ps y z A s g E;refine no_implicit_lambda%(hK10 ?_);generalize (HK10 _).1=W,(HK10 _).2.1=C,(HK10 _).2.2.1=n,(HK10 _).2.2.2.1=ρ,(HK10 _).2.2.2.2.1=ρ',(HK10 _).2.2.2.2.2.1=K,(HK10 _).2.2.2.2.2.2.1=T,(HK10 _).2.2.2.2.2.2.2.1=cc,(HK10 _).2.2.2.2.2.2.2.2.1=fI,(HK10 _).2.2.2.2.2.2.2.2.2=fPush;refine no_implicit_lambda%(hK10 ?_);generalize (HK10 _).1=fPop,(HK10 _).2.1=fLen,(HK10 _).2.2.1=fStr,(HK10 _).2.2.2.1=fPc,(HK10 _).2.2.2.2.1=x,(HK10 _).2.2.2.2.2.1=p,(HK10 _).2.2.2.2.2.2.1=apos,(HK10 _).2.2.2.2.2.2.2.1=pos,(HK10 _).2.2.2.2.2.2.2.2.1=es,(HK10 _).2.2.2.2.2.2.2.2.2=a;refine no_implicit_lambda%(hK9 ?_);generalize (HK9 _).1=d,(HK9 _).2.1=o,(HK9 _).2.2.1=ps,(HK9 _).2.2.2.1=y,(HK9 _).2.2.2.2.1=z,(HK9 _).2.2.2.2.2.1=A,(HK9 _).2.2.2.2.2.2.1=s,(HK9 _).2.2.2.2.2.2.2.1=g,(HK9 _).2.2.2.2.2.2.2.2=E;intro U h ao he hl hp hfew hline hsp hd R S
 obtain ⟨hv,vs,m,hq⟩:=S.page h; have hx:=hq.1; have hD:=hq.2.1; have ho:=hq.2.2
 refine f9 rfl (hfew _) hline (wpAny_Name (bH S.kind hv fun pl=>?_) hd)
 refine jO (od:=some o) (U.pop.sup.acc.In S.base) (dR hx ho) U.pop.sup.acc.ga U.pop.sup.acc.gx U.hPush.1 U.hPush.2 (ao.shadow (by simp)) ?_
 obtain ⟨fd,hq⟩:=U.mPush.fd; have D:=hq.1
 obtain ⟨of,hq⟩:=D.fn.at S.base; have hof:=hq.1; have hofd:=hq.2
 have q:=he A s g E pos R S
 obtain ⟨t,ts,ht⟩:=hsp C.env pos
 rw [ht] at q ⊢
 refine callWith_function (o:=of) (fd:=fd) (evalArgs_plain (wpAny_mono q (fun us s₁ ⟨g₁,x₁,hM⟩=>?_) fun _ _ e=>e))
 have S1:=S.step x₁
 refine ⟨⟨x₁.keep _ _ hof (S.base.wok.data_tb S.base.old hof (by rw [hofd]; intro _ z; cases z)),hofd⟩,?_⟩
 refine sB (fun v1 v2 h1 h2=>?_) hM
 refine cE (fun t1=>?_) h1
 refine cE (fun t2=>?_) h2
 ····skip
     obtain ⟨hv1,vs1,m₁,hq⟩:=S1.page h; have hx1:=hq.1; have hD0:=hq.2.1; have ho0:=hq.2.2
     refine wpAny_call (IR U.pop.sup.acc U.mPush S1.base R.lt hx1 ho0 ao (by rw [hD0.length,List.length_map]; exact hl) fun hM h' tk q m' hk hq hn hb hx'=>?_)
     have y₁:Ext W s₁ g₁ { s₁ with heap:=hM,toks:=tk } ([(q,({ cls:=.type "tuple",data:=.seq [Value.str y t1,Value.str z t2].toArray }:Obj))]++g₁):=
      Ext.of_new _ S1.base hk fun p hp=>by rw [List.mem_singleton.mp hp]; exact ⟨hq,hn⟩
     refine ⟨_,(S1.step y₁).turn (tk:=tk) h.mem hp hx' ?_ hb,fun p hp=>List.mem_append.mpr (.inr (x₁.sub p hp)),.none⟩
     show DatAll _ _ (LH (ps++[(y,z)]))
     unfold LH
     rw [List.map_append]
     refine DatAll.append (hD0.mono y₁.sub) (.one (.tuple (List.mem_append.mpr (.inl (List.mem_singleton.mpr rfl))) ?_))
     exact .cons (.str _ _) (.cons (.str _ _) .nil)
theorem HW (U:PageW W K T cc fI fPush fPop fLen fStr fPc) {x:Str} {p apos pos:Pos} {a d:Addr} {o:Obj} {ps:List (Str×Str)} {y z:Str} (h:Has ρ x (jT T a d o (ps++[(y,z)]))) (ao:AccO o) (hl:ps.length<=1000)
  (hp:Put x (some (jT T a d o ps)) ρ ρ') (hline:autoParam ((apos.endLine==pos.line)=true) Mine.dG._auto_1) (hd:autoParam ((x==("__debug__":Str))=false) Mine.aC._auto_1) :
  y2 W C (n+3) ρ ρ' (.Call (.Attribute (.Name x p) "pop" apos) [] [] pos) (.tuple [.str y,.str z]):=fun A s g E R S=>by
 revert U h ao hl hp hline hd R S;revert W C n ρ ρ' K T cc fI fPush fPop fLen fStr fPc x p apos pos a d o ps y z A s g E;refine no_implicit_lambda%(hK10 ?_);generalize (HK10 _).1=W,(HK10 _).2.1=C,(HK10 _).2.2.1=n,(HK10 _).2.2.2.1=ρ,(HK10 _).2.2.2.2.1=ρ',(HK10 _).2.2.2.2.2.1=K,(HK10 _).2.2.2.2.2.2.1=T,(HK10 _).2.2.2.2.2.2.2.1=cc,(HK10 _).2.2.2.2.2.2.2.2.1=fI,(HK10 _).2.2.2.2.2.2.2.2.2=fPush;refine no_implicit_lambda%(hK10 ?_);generalize (HK10 _).1=fPop,(HK10 _).2.1=fLen,(HK10 _).2.2.1=fStr,(HK10 _).2.2.2.1=fPc,(HK10 _).2.2.2.2.1=x,(HK10 _).2.2.2.2.2.1=p,(HK10 _).2.2.2.2.2.2.1=apos,(HK10 _).2.2.2.2.2.2.2.1=pos,(HK10 _).2.2.2.2.2.2.2.2.1=a,(HK10 _).2.2.2.2.2.2.2.2.2=d;refine no_implicit_lambda%(hK8 ?_);generalize (HK8 _).1=o,(HK8 _).2.1=ps,(HK8 _).2.2.1=y,(HK8 _).2.2.2.1=z,(HK8 _).2.2.2.2.1=A,(HK8 _).2.2.2.2.2.1=s,(HK8 _).2.2.2.2.2.2.1=g,(HK8 _).2.2.2.2.2.2.2=E;intro U h ao hl hp hline hd R S
 obtain ⟨hv,vs,m,hx,hD,ho⟩:=S.page h
 refine f9 rfl rfl hline (wpAny_Name (bH S.kind hv fun pl=>?_) hd)
 refine jO (od:=some o) (U.pop.sup.acc.In S.base) (dR hx ho) U.pop.sup.acc.ga U.pop.sup.acc.gx U.hPop.1 U.hPop.2 (ao.shadow (by simp)) ?_
 obtain ⟨fd,hq⟩:=U.mPop.fd; have D:=hq.1
 obtain ⟨of,hq⟩:=D.fn.at S.base; have hof:=hq.1; have hofd:=hq.2
 refine callWith_function (o:=of) (fd:=fd) (evalArgs_nil3 ⟨⟨hof,hofd⟩,?_⟩)
 have hD':DatAll g vs (LH ps++[.tuple [.str y,.str z]]):=by
  have:LH (ps++[(y,z)])=LH ps++[.tuple [.str y,.str z]]:=by unfold LH; rw [List.map_append]; rfl
  rw [←this]; exact hD
 obtain ⟨us,v,rfl,q1,q2⟩:=oC hD'
 refine wpAny_call (GF U.pop U.lpop U.mPop S.base (R.mono (by lia)) ao hx ho (fun h0=>?_) fun vs' v' e=>?_)
 ·simp at h0
 ·have e':us++[v]=vs'++[v']:=by simpa using congrArg Array.toList e
  have hq:=List.append_inj' e' rfl; have e1:=hq.1; have e2:=hq.2
  cases e2
  subst e1
  refine ⟨by rw [q1.length,List.length_map]; exact hl,fun h' tk m' hx' hb=>?_⟩
  exact ⟨g,S.turn (tk:=tk) h.mem hp hx' q1 hb,fun _ h=>h,q2⟩
theorem DZ (U:PageW W K T cc fI fPush fPop fLen fStr fPc) {x:Str} {p apos pos:Pos} {a d:Addr} {o:Obj} (h:Has ρ x (jT T a d o [])) (ao:AccO o) (hline:autoParam ((apos.endLine==pos.line)=true) Mine.dG._auto_1) (hd:autoParam ((x==("__debug__":Str))=false) Mine.aC._auto_1) :
  Ev W C (n+3) ρ (.Call (.Attribute (.Name x p) "pop" apos) [] [] pos) (.tuple [.str "",.str ""]):=fun A s g E R S=>by
 revert U h ao hline hd R S;revert W C n ρ K T cc fI fPush fPop fLen fStr fPc x p apos pos a d o A s g E;refine no_implicit_lambda%(hK10 ?_);generalize (HK10 _).1=W,(HK10 _).2.1=C,(HK10 _).2.2.1=n,(HK10 _).2.2.2.1=ρ,(HK10 _).2.2.2.2.1=K,(HK10 _).2.2.2.2.2.1=T,(HK10 _).2.2.2.2.2.2.1=cc,(HK10 _).2.2.2.2.2.2.2.1=fI,(HK10 _).2.2.2.2.2.2.2.2.1=fPush,(HK10 _).2.2.2.2.2.2.2.2.2=fPop;refine no_implicit_lambda%(hK10 ?_);generalize (HK10 _).1=fLen,(HK10 _).2.1=fStr,(HK10 _).2.2.1=fPc,(HK10 _).2.2.2.1=x,(HK10 _).2.2.2.2.1=p,(HK10 _).2.2.2.2.2.1=apos,(HK10 _).2.2.2.2.2.2.1=pos,(HK10 _).2.2.2.2.2.2.2.1=a,(HK10 _).2.2.2.2.2.2.2.2.1=d,(HK10 _).2.2.2.2.2.2.2.2.2=o;refine no_implicit_lambda%(hK4 ?_);generalize (HK4 _).1=A,(HK4 _).2.1=s,(HK4 _).2.2.1=g,(HK4 _).2.2.2=E;intro U h ao hline hd R S
 obtain ⟨hv,vs,m,hx,hD,ho⟩:=S.page h
 refine f9 rfl rfl hline (wpAny_Name (bH S.kind hv fun pl=>?_) hd)
 refine jO (od:=some o) (U.pop.sup.acc.In S.base) (dR hx ho) U.pop.sup.acc.ga U.pop.sup.acc.gx U.hPop.1 U.hPop.2 (ao.shadow (by simp)) ?_
 obtain ⟨fd,hq⟩:=U.mPop.fd; have D:=hq.1
 obtain ⟨of,hq⟩:=D.fn.at S.base; have hof:=hq.1; have hofd:=hq.2
 refine callWith_function (o:=of) (fd:=fd) (evalArgs_nil3 ⟨⟨hof,hofd⟩,?_⟩)
 have hD':DatAll g vs []:=hD
 cases hD'
 refine wpAny_call (GF U.pop U.lpop U.mPop S.base (R.mono (by lia)) ao hx ho (fun h0 h' tk q t1 t2 hk hq hn=>?_) fun vs' v' e=>?_)
 ·refine ⟨[(q,({ cls:=.type "tuple",data:=.seq [Value.str "" t1,Value.str "" t2].toArray }:Obj))]++g,Ext.of_new _ S.base hk fun p hp=>by rw [List.mem_singleton.mp hp]; exact ⟨hq,hn⟩,?_⟩
  exact .tuple (List.mem_append.mpr (.inl (List.mem_singleton.mpr rfl))) (.cons (.str _ _) (.cons (.str _ _) .nil))
 ·have e':([]:List Value)=vs'++[v']:=by simpa using congrArg Array.toList e
  simp at e'
end
section
variable {W:Wd} {C:Cx} {n:Nat} {ρ ρ' ρ'':aW} {P:Fl->aW->Prop} {K:Frag} {T cc fI fPush fPop fLen fStr fPc:Addr}
theorem IT (U:PageW W K T cc fI fPush fPop fLen fStr fPc) {x:Str} {p p1 p2 p3 pos:Pos} {k:Nat} {rest:List Stmt} (hk:C.env.kindOf "_Accumulator" = some .globalImplicit)
  (hp:∀a d o,AccO o->∃ρ',Put x (some (jT T a d o [])) ρ ρ'/\cD W C (n+1) ρ' rest P)
  (hs:autoParam (∀env,swapsWith (.Call (.Name "_Accumulator" p1) [.Constant (.int 5) k p2] [] p3) (some (.Name x p)) pos.line env=pure false) Mine.aA._auto_1) :
  cD W C (n+1) ρ (.Assign [.Name x p] (.Call (.Name "_Accumulator" p1) [.Constant (.int 5) k p2] [] p3) pos::rest) P:=fun A s g E R S=>by
 revert U hk hp hs R S;revert W C n ρ P K T cc fI fPush fPop fLen fStr fPc x p p1 p2 p3 pos k rest A s g E;refine no_implicit_lambda%(hK10 ?_);generalize (HK10 _).1=W,(HK10 _).2.1=C,(HK10 _).2.2.1=n,(HK10 _).2.2.2.1=ρ,(HK10 _).2.2.2.2.1=P,(HK10 _).2.2.2.2.2.1=K,(HK10 _).2.2.2.2.2.2.1=T,(HK10 _).2.2.2.2.2.2.2.1=cc,(HK10 _).2.2.2.2.2.2.2.2.1=fI,(HK10 _).2.2.2.2.2.2.2.2.2=fPush;refine no_implicit_lambda%(hK10 ?_);generalize (HK10 _).1=fPop,(HK10 _).2.1=fLen,(HK10 _).2.2.1=fStr,(HK10 _).2.2.2.1=fPc,(HK10 _).2.2.2.2.1=x,(HK10 _).2.2.2.2.2.1=p,(HK10 _).2.2.2.2.2.2.1=p1,(HK10 _).2.2.2.2.2.2.2.1=p2,(HK10 _).2.2.2.2.2.2.2.2.1=p3,(HK10 _).2.2.2.2.2.2.2.2.2=pos;refine no_implicit_lambda%(hK6 ?_);generalize (HK6 _).1=k,(HK6 _).2.1=rest,(HK6 _).2.2.1=A,(HK6 _).2.2.2.1=s,(HK6 _).2.2.2.2.1=g,(HK6 _).2.2.2.2.2=E;intro U hk hp hs R S
 refine wpAny_execs_cons (wpAny_Assign_Name (wpAny_Call_NameR (jA S U.mg hk (rfl) ?_)) (hs _))
 have B₁:Base W { s with toks:=s.toks+1 } g:=S.base.step (Ext.toks (tk:=s.toks+1) S.base.gok)
 refine callWith_K (K:=K) (U.pop.sup.acc.In S.base) U.keep (spliced_cons (wpAny_Constant_int (k:=k) (pos:=p2) (spliced_nil ⟨U.pop.sup.acc.In B₁,?_⟩))) rfl rfl
 have S1:St W C ρ { s with toks:=s.toks+1 } g:=S.step (Ext.toks (tk:=s.toks+1) S.base.gok)
 refine wpAny_call (CE (h:=s.heap) (g:=s.gens) (d:=s.drawn) (t:=s.toks+1) (os:=s.os) (U.pop.sup.acc.In S.base) U.make ?_)
 have kk:∀b o,s.heap.get? b=some o->((s.heap.push emptyDict).push (dH T s.heap.objs.size)).get? b=some o:=fun b o e=>Heap.get?_push_of_some _ (Heap.get?_push_of_some _ e)
 have nx:s.heap.get? (s.heap.objs.size+1)=none:=by
  cases e:s.heap.get? (s.heap.objs.size+1) with
  | none=>rfl
  | some o=>exact absurd (Heap.lt_size e) (Nat.not_lt.mpr (Nat.le_succ _))
 have nd:s.heap.get? s.heap.objs.size=none:=get?_size _
 have hx:((s.heap.push emptyDict).push (dH T s.heap.objs.size)).get? (s.heap.objs.size+1)=some (dH T s.heap.objs.size):=by heap_get
 have hD:((s.heap.push emptyDict).push (dH T s.heap.objs.size)).get? s.heap.objs.size=some emptyDict:=Heap.get?_push_of_some _ (Heap.get?_push_size _ rfl)
 refine JG (sp:={ s with toks:=s.toks+1 }) U.pop.sup U.set U.mI B₁ (Ext.of_keeps (tk:=s.toks+1) B₁.gok kk) ?_ nx nd (Nat.ne_of_lt (Nat.lt_succ_self _)) hx hD (fun p hp=>?_) fun h' tk o ao hd' hx' x'=>?_
 ·have hw:(Code.builtin "type.__call__" ⟨[.ref T,.int 5 s.toks],[]⟩).weight=1:=by kernel_rfl
  have:=R.depth
  show A.depth+(Code.builtin "type.__call__" ⟨[.ref T,.int 5 s.toks],[]⟩).weight<1000
  lia
 ·have:=Heap.lt_size (S.base.gok p hp).1
  exact ⟨Nat.ne_of_lt (Nat.lt_succ_of_lt this),Nat.ne_of_lt this⟩
 ·refine ⟨rfl,?_⟩
  have y:Ext W { s with toks:=s.toks+1 } g { s with heap:=h',toks:=tk } ((s.heap.objs.size,o)::g):=⟨x'.keep,x'.old,fun p hp=>List.mem_cons_of_mem _ hp,fun p hp=>by
    rcases List.mem_cons.mp hp with rfl|hp
    ·exact ⟨hd',B₁.wok.not_tb B₁.old nd⟩
    ·exact x'.ok p hp,fun p hp=>by
    rcases List.mem_cons.mp hp with rfl|hp
    ·exact .inr nd
    ·exact .inl hp,x'.os,x'.bare,x'.tabs⟩
  have S2:=S1.step y
  obtain ⟨ρ',hq⟩:=hp (s.heap.objs.size+1) s.heap.objs.size o ao; have hput:=hq.1; have hr:=hq.2
  refine S2.storeV (b:=jT T (s.heap.objs.size+1) s.heap.objs.size o []) hput (fun h'' hh hkk=>⟨hh,⟨[],0,hkk _ _ hx' ⟨_,_,a6 _ _ _⟩,.nil⟩,fun p hp=>?_,eZ S1.base0 S1.ext nx,fun c d o' e=>?_⟩) (fun a' k' es he y' j' fs hy hm=>?_) fun s' S' _=>?_
  ·rcases List.mem_cons.mp hp with rfl|hp
   ·exact Nat.ne_of_lt (Nat.lt_succ_self _)
   ·exact Nat.ne_of_lt (Nat.lt_succ_of_lt (Heap.lt_size (S.base.gok p hp).1))
  ·cases e
   exact ⟨List.mem_cons_self,ao.it⟩
  ·cases he
   obtain ⟨_,⟨us,j,e',_⟩,_⟩:=S1.vars _ _ hm
   rw [nx] at e'; cases e'
  ·exact OL (fun p hp=>List.mem_cons_of_mem _ hp) (hr A s' _ E R S')
end
end
section
open PySem PySem.W PySem.Calls PyProof.Rows PySem.SeqAt
section
variable {W:Wd} {C:Cx} {n:Nat} {ρ ρ' ρ'':aW} {P:Fl->aW->Prop}
noncomputable def NS (W:Wd) (C:Cx) (n:Nat) (ρ ρ':aW) (e:Expr) (b:Bool):Prop:=
 ∀(A:Around) (s:Shared) (g:Gh) (E:Value->Shared->Prop),Room n A->St W C ρ s g ->
  wpAny (model W.prog W.w) A (isTrue e C.env (eval e C.env)) (fun b' s'=>b'=b/\∃g',St W C ρ' s' g'/\∀p∈g,p∈g') E s
theorem xW {l r:Expr} {op:CmpOp} {pos:Pos} {d₁ d₂:Dat} {b:Bool} (hl:y2 W C n ρ ρ' l d₁) (hr:y2 W C n ρ' ρ'' r d₂) (h:lJ W n (compareOp op) d₁ d₂ (.bool b))
  (hm:autoParam (behindInMarks op r=false) Mine.kN._auto_1):NS W C n ρ ρ'' (.Compare l [op] [r] pos) b:=fun A s g E R S =>
 wpAny_isTrue_Compare1 (wpAny_mono (hl A s g E R S) (fun a s₁ ⟨g₁,S1,y₁,hM⟩=>wpAny_mono (hr A s₁ g₁ E R S1) (fun b s₂ ⟨g₂,S2,y₂,hU⟩ =>
  go3 (h A s₂ g₂ E a b R S2.base (hM.mono y₂) hU) (fun v s₃ g₃ x₃ hV=>by
   cases hV
   exact wpAny_truthy_bool ⟨rfl,g₃,S2.step x₃,fun p hp=>x₃.sub p (y₂ p (y₁ p hp))⟩)) fun _ _ e=>e) fun _ _ e=>e) hm
theorem FA {t:Expr} {body orelse:List Stmt} {pos:Pos} {b:Bool} (h:NS W C n ρ ρ' t b) (h1:b=true->cD W C n ρ' body P) (h2:b=false->cD W C n ρ' orelse P):Ex W C n ρ (.If t body orelse pos) P:=fun A s g E R S=>by
 refine wpAny_If (wpAny_mono (h A s g E R S) (fun b' s₁ ⟨e,g₁,S1,y₁⟩=>?_) fun _ _ e=>e)
 subst e
 have up:∀f s',wN W C g₁ P f s'->wN W C g P f s':=fun f s' h=>h.up y₁
 cases b' with
 | true=>exact wpAny_mono (h1 rfl A s₁ g₁ E R S1) up fun _ _ e=>e
 | false=>exact wpAny_mono (h2 rfl A s₁ g₁ E R S1) up fun _ _ e=>e
theorem E5 {e1 e2:Expr} {k:Nat} {pos:Pos} {d₁ d₂:Dat} (h1:Ev W C n ρ e1 d₁) (h2:y2 W C n ρ ρ' e2 d₂) (hs:autoParam (∀env,starEach [e1,e2] env=[(false,eval e1 env),(false,eval e2 env)]) Mine.aA._auto_1) :
  y2 W C n ρ ρ' (.Tuple [e1,e2] k pos) (.tuple [d₁,d₂]):=fun A s g E R S=>by
 refine Tuple_ ?_
 rw [hs]
 refine spliced_cons (wpAny_mono (h1 A s g E R S) (fun v s₁ ⟨g₁,x₁,q₁⟩=>?_) fun _ _ e=>e)
 refine spliced_cons (wpAny_mono (h2 A s₁ g₁ E R (S.step x₁)) (fun v' s₂ ⟨g₂,S2,y₂,q₂⟩=>spliced_nil ?_) fun _ _ e=>e)
 exact wpAny_mono (tN S2.base (.cons (q₁.mono y₂) (.cons q₂ .nil)) (by show 2<=sizeLine; decide)) (fun v s₃ ⟨g₃,x₃,q₃⟩=>⟨g₃,S2.step x₃,fun p hp=>x₃.sub p (y₂ p (x₁.sub p hp)),q₃⟩) fun _ _ e=>e
theorem HC {test:Expr} {body:List Stmt} {pos:Pos} (N:Nat) (I:Nat->aW->Prop) (h0:I N ρ)
  (turn:∀k ρ,I k ρ->∃b,sH W C n ρ test b/\(b=true->cD W C n ρ body fun fl r=>match fl with | .next=>∃m,m<k/\I m r | .cont=>∃m,m<k/\I m r | .brk=>P .next r | .ret d=>P (.ret d) r)/\(b=false->P .next ρ)) :
  Ex W C n ρ (.While test body [] pos) P:=fun A s g E R S=>by
 revert h0 turn R S;revert W C n ρ P test body pos N I A s g E;refine no_implicit_lambda%(hK10 ?_);generalize (HK10 _).1=W,(HK10 _).2.1=C,(HK10 _).2.2.1=n,(HK10 _).2.2.2.1=ρ,(HK10 _).2.2.2.2.1=P,(HK10 _).2.2.2.2.2.1=test,(HK10 _).2.2.2.2.2.2.1=body,(HK10 _).2.2.2.2.2.2.2.1=pos,(HK10 _).2.2.2.2.2.2.2.2.1=N,(HK10 _).2.2.2.2.2.2.2.2.2=I;refine no_implicit_lambda%(hK4 ?_);generalize (HK4 _).1=A,(HK4 _).2.1=s,(HK4 _).2.2.1=g,(HK4 _).2.2.2=E;intro h0 turn R S
 refine wpAny_While (codeAny_whileLoop (fun k s=>∃ρ₀ g₀,I k ρ₀/\St W C ρ₀ s g₀/\∀p∈g,p∈g₀) ?_ N ⟨ρ,g,h0,S,fun _ h=>h⟩)
 rintro k s₁ ⟨ρ₀,g₀,hI,S1,hg⟩
 obtain ⟨b,hq⟩:=turn k ρ₀ hI; have ht:=hq.1; have hb:=hq.2.1; have hdone:=hq.2.2
 refine wpAny_mono (ht A s₁ g₀ _ R S1) (fun b' s₂ ⟨e,g₂,x₂⟩=>?_) fun _ _ e=>e
 subst e
 have S2:=S1.step x₂
 cases b' with
 | false=>exact wpAny_execs_nil ⟨.next,ρ₀,g₂,hdone rfl,S2,fun p hp=>x₂.sub p (hg p hp),trivial⟩
 | true =>
  refine wpAny_mono (hb rfl A s₂ g₂ _ R S2) (fun f s₃ ⟨fl,ρ3,g₃,hp,S3,hg3,hfl⟩=>?_) fun _ _ e=>e
  have out:∀p∈g,p∈g₃:=fun p hp=>hg3 p (x₂.sub p (hg p hp))
  cases f<;>cases fl<;>first
   | exact hfl.elim
   | (obtain ⟨m,hq⟩:=hp; have hm:=hq.1; have hI':=hq.2; exact ⟨m,hm,ρ3,g₃,hI',S3,out⟩)
   | exact ⟨_,ρ3,g₃,hp,S3,out,hfl⟩
end
section
variable {W:Wd} {C:Cx} {n:Nat} {ρ ρ' ρ'':aW} {P:Fl->aW->Prop}
noncomputable abbrev aO (h:List Str):Dat:=.list (h.map .str)
noncomputable abbrev cC (hs:List (List Str)):Dat:=.list (hs.map aO)
noncomputable abbrev gG (li:List (Nat×Nat)):Dat:=.list (li.map pairD)
noncomputable abbrev jP (p:Nat×List Str):Dat:=.tuple [.int p.1,aO p.2]
noncomputable abbrev rd (hs:List (List Str)) (li:List (Nat×Nat)) (pg la sz lb pi co wh na ls ta:Option Bd):aW:=
 [("hosts",some (.val (cC hs))),("lies",some (.val (gG li))),("page",pg),("ladder",la),("size",sz),("labels",lb),("pieces",pi),("company",co),("whole",wh),("name",na),("lists",ls),("tail",ta)]
noncomputable def dQ (acc:List (List Str)) (h:List Str):List (List Str):=if acc.any (fun a=>eJ (aO a) (aO h)) then acc else acc++[h]
noncomputable def lad (l:List (List Str)):List (List Str):=l.foldl dQ []
theorem xO (acc:List (List Str)) (h:List Str):(dQ acc h).length<=acc.length+1:=by
 unfold dQ
 split
 ·lia
 ·simp
theorem J1 (l:List (List Str)):(lad l).length<=l.length:=by
 have:∀(l acc:List (List Str)),(l.foldl dQ acc).length<=acc.length+l.length:=by
  intro l
  induction l with
  | nil=>intro acc; simp
  | cons h t ih =>
   intro acc
   have h1:=ih (dQ acc h)
   have h2:=xO acc h
   simp only [List.foldl_cons,List.length_cons]
   lia
 have:=this l []
 simpa [lad] using this
theorem J0 {l:List (List Str)} {h:List Str} (hm:h∈lad l):h∈l:=by
 have:∀(l acc:List (List Str)),h∈l.foldl dQ acc->h∈acc\/h∈l:=by
  intro l
  induction l with
  | nil=>intro acc hm; exact .inl hm
  | cons g t ih =>
   intro acc hm
   rcases ih (dQ acc g) hm with q|q
   ·unfold dQ at q
    split at q
    ·exact .inl q
    ·rcases List.mem_append.mp q with q|q
     ·exact .inl q
     ·rw [List.mem_singleton.mp q]
      exact .inr List.mem_cons_self
   ·exact .inr (List.mem_cons_of_mem _ q)
 rcases this l [] hm with q|q
 ·cases q
 ·exact q
noncomputable def st21 (i:Nat):Stmt:=((dW (aT 21))[i]?).getD (.Pass ⟨0,0,0,0⟩)
theorem DF (hC:C.env.scope=aR (aT 21)) (G:Glb W) {hs:List (List Str)} {li:List (Nat×Nat)} {pg pi co wh na ls ta sz lb:Option Bd} {srt:List (Nat×List Str)} {a:Addr}
  (hh:∀h∈hs,h.length<=1000) (hl:hs.length<=50) (hsrt:eO (hs.map fun h=>jP (h.length,h))=some (srt.map jP)) (hz:srt.length<=50) (hk:∀p∈srt,∀q∈srt,kin 8 (aO p.2) (aO q.2)=true)
  (hP:∀sz lb,P .next (rd hs li pg (some (.own a ((lad (srt.map (·.2))).map aO))) sz lb pi co wh na ls ta)) :
  Ex W C (n+4) (rd hs li pg (some (.own a [])) sz lb pi co wh na ls ta) (st21 2) P:=by
 have ks:C.env.kindOf "sorted" = some .globalImplicit:=aE hC (by kernel_rfl)
 refine dU (ds:=srt.map jP) (bG (bT G.sorted.1 G.sorted.2 (aA (dA (d':=.list (hs.map fun h=>jP (h.length,h))) (dO (xs:=hs) (emb:=aO) (far:=[]) (ρ₀:=[("host",none)]) (fun h=>some (jP (h.length,h))) (by kernel_rfl)
  (bG (aC (by exact aB 0 rfl))) (fun p hp=>nomatch hp) (by rw [sizeLine_eq]; lia) fun C' B h hm=>?_) ?_) aD) (nI ?_ ?_ hsrt) ks)) (fun i ρ=>∃sz lb,ρ=rd hs li pg (some (.own a ((lad ((srt.take i).map (·.2))).map aO))) sz lb pi co wh na ls ta) ⟨sz,lb,rfl⟩ (fun i hi ρ ⟨sz,lb,e⟩=>?_) fun ρ ⟨sz,lb,e⟩=>?_
 ·have kl':C'.env.kindOf "len" = some .globalImplicit:=B.kind _ _ (by kernel_rfl) (by decide)
  refine gK (aV .head) (dA (bF (aA (bT G.len.1 G.len.2 (aA (aC .head) aD) (lN ?_) kl') (aA (aC .head) aD))) ?_)
  ·have:=hh h hm
   rw [List.length_map]; lia
  ·rw [List.length_map]
 ·rw [bC]
 ·rw [List.length_map]; lia
 ·rw [List.all_eq_true]
  intro d hd
  obtain ⟨p,_,rfl⟩:=List.mem_map.mp hd
  rfl
 ·subst e
  have hi':i<srt.length:=by simpa using hi
  have hget:(srt.map jP)[i]=jP srt[i]:=by rw [List.getElem_map]
  have hstep:lad ((srt.take (i+1)).map (·.2))=dQ (lad ((srt.take i).map (·.2))) srt[i].2:=by
   rw [List.take_succ_eq_append_getElem hi',List.map_append,lad,List.foldl_append]
   rfl
  have hlen:(lad ((srt.take i).map (·.2))).length<=1000:=by
   have h1:=J1 ((srt.take i).map (·.2))
   rw [List.length_map,List.length_take] at h1
   omega
  refine ⟨rd hs li pg (some (.own a ((lad ((srt.take i).map (·.2))).map aO))) (some (.val (.int srt[i].1))) (some (.val (aO srt[i].2))) pi co wh na ls ta,by rw [hget]; exact fG (by exact aF 4 rfl rfl) (by exact aF 5 rfl rfl),?_⟩
  have hmem:∀h∈lad ((srt.take i).map (·.2)),∃p∈srt,p.2=h:=fun h hm=>by
   obtain ⟨p,hq⟩:=List.mem_map.mp (J0 hm); have hp:=hq.1; have e:=hq.2
   exact ⟨p,List.mem_of_mem_take hp,e⟩
  have test:sH W C (n+4) (rd hs li pg (some (.own a ((lad ((srt.take i).map (·.2))).map aO))) (some (.val (.int srt[i].1))) (some (.val (aO srt[i].2))) pi co wh na ls ta)
    (.Compare (.Name "labels" ⟨153,11,153,17⟩) [.NotIn] [.Name "ladder" ⟨153,25,153,31⟩] ⟨153,11,153,31⟩) (!((lad ((srt.take i).map (·.2))).map aO).any fun y=>eJ y (aO srt[i].2)):=by
   refine wY (x:="ladder") (a:=a) (ρ':=rd hs li pg (some (.val (.list ((lad ((srt.take i).map (·.2))).map aO)))) (some (.val (.int srt[i].1))) (some (.val (aO srt[i].2))) pi co wh na ls ta) (by exact aB 3 rfl) (by exact aF 3 rfl rfl) ?_
   refine aN (aC (by exact aB 5 rfl)) (aC (by exact aB 3 rfl)) (eF fun y hy=>?_)
   obtain ⟨h,hm,rfl⟩:=List.mem_map.mp hy
   obtain ⟨p,hp,rfl⟩:=hmem h hm
   exact hk p hp _ (List.getElem_mem hi')
  refine aP (P':=fun fl r=>fl=.next/\∃sz lb,r=rd hs li pg (some (.own a ((lad ((srt.take (i+1)).map (·.2))).map aO))) sz lb pi co wh na ls ta) (gJ test (fun hb=>?_) fun hb=>?_) (fun ρ' ⟨_,e⟩=>aQ (by exact e)) fun fl r hne ⟨e,_⟩=>absurd e hne
  ·refine aI (lF (gC (by exact aB 3 rfl) (aC (by exact aB 5 rfl)) (by exact aF 3 rfl rfl) (by rw [List.length_map]; exact hlen))) (aQ ⟨rfl,some (.val (.int srt[i].1)),some (.val (aO srt[i].2)),?_⟩)
   rw [hstep,dQ,if_neg,List.map_append]
   ·rfl
   ·rw [Bool.not_eq_true',List.any_map] at hb
    rw [Bool.not_eq_true]
    exact hb
  ·refine aQ ⟨rfl,some (.val (.int srt[i].1)),some (.val (aO srt[i].2)),?_⟩
   rw [hstep,dQ,if_pos]
   rw [Bool.not_eq_false',List.any_map] at hb
   exact hb
 ·subst e
  rw [List.length_map,List.take_length]
  exact hP sz lb
end
section
variable {W:Wd} {C:Cx} {n:Nat} {ρ ρ' ρ'':aW} {P:Fl->aW->Prop}
noncomputable def idxH (hs:List (List Str)) (lb:List Str):Nat:=hs.findIdx fun h=>eJ (aO h) (aO lb)
noncomputable def inLies (li:List (Nat×Nat)) (i y:Nat):Bool:=(li.map pairD).any fun q=>eJ q (.tuple [.int i,.int y])
noncomputable def iF (hs:List (List Str)) (li:List (Nat×Nat)) (lb:List Str):List Nat:=(List.range 5).filter fun y => !((lb.map Dat.str).any fun q=>eJ q (.str (letter y)))&&inLies li (idxH hs lb) y
noncomputable def bE (co:List Nat):Str:="nFLAGS (\\(Z] " ++ Txt.join " \t" (co.map letter) ++ " \\(Z])"
structure LadOk (hs:List (List Str)) (lb:List Str):Prop where
 at_:hs[idxH hs lb]? = some lb
 before:∀i h,i<idxH hs lb->hs[i]? = some h->eJ (aO h) (aO lb)=false
 kin:∀h∈hs,kin 8 (aO h) (aO lb)=true
theorem yV (hC:C.env.scope=aR (aT 21)) (G:Glb W) {hs:List (List Str)} {li:List (Nat×Nat)} {pg la sz pi co wh na ls ta:Option Bd} {lb:List Str} (ok:LadOk hs lb) (hl:hs.length<=50) (hz:lb.length<=1000) :
  Ex W C (n+4) (rd hs li pg la sz (some (.val (aO lb))) pi co wh na ls ta)
   ((match st21 4 with | .For _ _ (s::_) _ _=>s|_=>.Pass ⟨0,0,0,0⟩)) (iS (rd hs li pg la sz (some (.val (aO lb))) pi (some (.val (.list ((iF hs li lb).map fun y=>.str (letter y))))) wh na ls ta)):=by
 revert W C n hs li pg la sz pi co wh na ls ta lb;refine no_implicit_lambda%(hK3 ?_);generalize (HK3 _).1=W,(HK3 _).2.1=C,(HK3 _).2.2=n;intro hC G;refine no_implicit_lambda%(hK10 ?_);generalize (HK10 _).1=hs,(HK10 _).2.1=li,(HK10 _).2.2.1=pg,(HK10 _).2.2.2.1=la,(HK10 _).2.2.2.2.1=sz,(HK10 _).2.2.2.2.2.1=pi,(HK10 _).2.2.2.2.2.2.1=co,(HK10 _).2.2.2.2.2.2.2.1=wh,(HK10 _).2.2.2.2.2.2.2.2.1=na,(HK10 _).2.2.2.2.2.2.2.2.2=ls;refine no_implicit_lambda%(hK2 ?_);generalize (HK2 _).1=ta,(HK2 _).2=lb;intro ok hl hz
 have kr:C.env.kindOf "range" = some .globalImplicit:=aE hC (by kernel_rfl)
 refine jJ (xs:=List.range 5) (emb:=fun (i:Nat)=>Dat.int i) (far:=[("hosts",cC hs),("labels",aO lb),("lies",gG li)]) (ρ₀:=[("y",none)])
  (fun (y:Nat)=>if (!((lb.map Dat.str).any fun q=>eJ q (.str (letter y)))&&inLies li (idxH hs lb) y)=true then some (.str (letter y)) else none) (by kernel_rfl)
  (by rw [←dS]; exact bR G.range.1 G.range.2 kr (aA aH aD) fT (cB (by decide) (by decide) (by decide) (by decide)) (rfl)) (fun p hp=>?_) (by rw [sizeLine_eq]; decide) (fun C' B y hy=>?_) (by rw [a7]; repeat constructor) (aE hC (by kernel_rfl))
 ·rcases List.mem_cons.mp hp with rfl|hp
  ·exact .own (by exact aB 0 rfl) (aE hC (by kernel_rfl))
  ·rcases List.mem_cons.mp hp with rfl|hp
   ·exact .own (by exact aB 5 rfl) (aE hC (by kernel_rfl))
   ·rw [List.mem_singleton.mp hp]; exact .own (by exact aB 1 rfl) (aE hC (by kernel_rfl))
 ·have hy5:y<5:=List.mem_range.mp hy
  refine eH (aV .head) (dV (cF (.and (aN (a5 aS (aC .head) (cX hy5)) (bK (by rw [B.far]; exact .tail .head)) (eF fun q hq=>?_)) fun _=>.and (aN (bF (aA (dG (bK (by rw [B.far]; exact .head)) (aA (bK (by rw [B.far]; exact .tail .head)) aD)
   (x3 (j:=idxH hs lb) (fun q hq=>?_) (by rw [List.length_map]; lia) (by rw [List.getElem?_map,ok.at_]; rfl) fun i e hi he=>?_)) (aA (aC .head) aD))) (bK (by rw [B.far]; exact .tail (.tail .head))) (qB fun q hq=>?_)) fun _=>.nil)) ?_) fun _=>a5 aS (aC .head) (cX hy5)
  ·obtain ⟨a,_,rfl⟩:=List.mem_map.mp hq; rfl
  ·obtain ⟨a,ha,rfl⟩:=List.mem_map.mp hq; exact ok.kin a ha
  ·rw [List.getElem?_map] at he
   obtain ⟨h,hh,rfl⟩:=Option.map_eq_some_iff.mp he
   exact ok.before i h hi hh
  ·obtain ⟨a,ha,rfl⟩:=List.mem_map.mp hq; rfl
  ·rw [show (BoolOp.And==BoolOp.And)=true from rfl,Bool.and_true]; rfl
end
section
variable {W:Wd} {C:Cx} {n:Nat} {ρ ρ' ρ'':aW} {P:Fl->aW->Prop} {K:Frag} {T cc fI fPush fPop fLen fStr fPc:Addr}
noncomputable abbrev pcs (hs:List (List Str)) (li:List (Nat×Nat)) (lads:List (List Str)):List Str:=lads.map fun lb=>bE (iF hs li lb)
theorem ES (ps:List Str) (d:Dat):((-1:Int)+((ps.map Dat.str++[d]).length:Int)).toNat=ps.length:=by
 rw [List.length_append,List.length_map]
 show ((-1:Int)+((ps.length+1:Nat):Int)).toNat=ps.length
 lia
theorem EO (hC:C.env.scope=aR (aT 21)) (G:Glb W) (U:PageW W K T cc fI fPush fPop fLen fStr fPc) {hs:List (List Str)} {li:List (Nat×Nat)} {la sz co wh na ls ta:Option Bd} {lb:List Str} {pa d a:Addr} {o:Obj} {ps:List Str} (ao:AccO o)
  (ok:LadOk hs lb) (hl:hs.length<=50) (hz:lb.length<=1000) (hp:ps.length<=900) (hjo:JoinOk " \t" ((iF hs li lb).map letter)=true) (hjl:(Txt.join " \t" ((iF hs li lb).map letter)).length<=1000) :
  cD W C (n+4) (rd hs li (some (jT T pa d o (ps.map fun p=>(" ",p)))) la sz (some (.val (aO lb))) (some (.own a (ps.map .str))) co wh na ls ta)
   (match st21 4 with | .For _ _ b _ _=>b|_=>[])
   (fun fl r=>fl=.next/\∃co,r=rd hs li (some (jT T pa d o ((ps++[bE (iF hs li lb)]).map fun p=>(" ",p)))) la sz (some (.val (aO lb))) (some (.own a ((ps++[bE (iF hs li lb)]).map .str))) co wh na ls ta):=by
 refine aI (yV hC G ok hl hz) ?_
 refine aI (ρ':=rd hs li (some (jT T pa d o (ps.map fun p=>(" ",p)))) la sz (some (.val (aO lb))) (some (.own a (ps.map .str++[.str (bE (iF hs li lb))]))) (some (.val (.list ((iF hs li lb).map fun y=>.str (letter y))))) wh na ls ta)
  (lF (gC (by exact aB 6 rfl) (aJ (aJ aS (dG aS (aA (dA (d':=.list (((iF hs li lb).map letter).map .str)) (aC (by exact aB 7 rfl)) (by rw [List.map_map]; rfl)) aD) (uN hjo)) (cI (by rw [sizeLine_eq]; show 13+_<=_; lia))) aS (cI ?_)) (by exact aF 6 rfl rfl) (by rw [List.length_map]; lia))) ?_
 ·rw [sizeLine_eq]
  rw [PySem.Str.length_append]
  show 13+_+6<=_
  lia
 refine aP (P':=iS (rd hs li (some (jT T pa d o (ps.map (fun p=>((" ":Str),p))++[(((" ":Str),bE (iF hs li lb)):Str×Str)]))) la sz (some (.val (aO lb))) (some (.own a (ps.map .str++[.str (bE (iF hs li lb))]))) (some (.val (.list ((iF hs li lb).map fun y=>.str (letter y))))) wh na ls ta))
  (FA (xW (FM U (by exact aB 2 rfl) ao (aA aS (aA (gD (x:="pieces") (a:=a) (ρ':=rd hs li (some (jT T pa d o (ps.map fun p=>(" ",p)))) la sz (some (.val (aO lb))) (some (.val (.list (ps.map .str++[.str (bE (iF hs li lb))])))) (some (.val (.list ((iF hs li lb).map fun y=>.str (letter y))))) wh na ls ta) (by exact aB 6 rfl) (by exact aF 6 rfl rfl)
   (a5 (aC (by exact aB 6 rfl)) (fN aH iU) (kT (d:=.str (bE (iF hs li lb))) (by decide) (by rw [List.length_append,List.length_map]; simp; lia) (by decide) (by rw [ES,List.getElem?_append_right (by rw [List.length_map]; exact Nat.le_refl _),List.length_map,Nat.sub_self]; rfl))) trivial) aD)) (by rw [List.length_map]; lia) (by exact aF 2 rfl rfl)) (GX AZ) (d8 (b:=true) rfl)) (fun h=>nomatch h) fun _=>aQ ⟨rfl,rfl⟩) (fun r ⟨_,e⟩=>?_) fun fl r hne' ⟨e,_⟩=>absurd e hne'
 subst e
 refine aQ ⟨rfl,some (.val (.list ((iF hs li lb).map fun y=>.str (letter y)))),?_⟩
 rw [List.map_append,List.map_append]
 rfl
end
section
variable {W:Wd} {C:Cx} {n:Nat} {ρ ρ' ρ'':aW} {P:Fl->aW->Prop} {K:Frag} {T cc fI fPush fPop fLen fStr fPc:Addr}
theorem BW (hC:C.env.scope=aR (aT 21)) (G:Glb W) (U:PageW W K T cc fI fPush fPop fLen fStr fPc) {hs:List (List Str)} {li:List (Nat×Nat)} {sz lb co wh na ls ta:Option Bd} {lads:List (List Str)} {pa d a:Addr} {o:Obj} (ao:AccO o)
  (ok:∀lb∈lads,LadOk hs lb/\lb.length<=1000/\JoinOk " \t" ((iF hs li lb).map letter)=true/\(Txt.join " \t" ((iF hs li lb).map letter)).length<=1000) (hl:hs.length<=50) (hn:lads.length<=100)
  (hP:∀lb co,P .next (rd hs li (some (jT T pa d o ((pcs hs li lads).map fun p=>(" ",p)))) (some (.val (.list (lads.map aO)))) sz lb (some (.own a ((pcs hs li lads).map .str))) co wh na ls ta)) :
  Ex W C (n+4) (rd hs li (some (jT T pa d o [])) (some (.val (.list (lads.map aO)))) sz lb (some (.own a [])) co wh na ls ta) (st21 4) P:=by
 refine dU (ds:=lads.map aO) (bG (aC (by exact aB 3 rfl))) (fun i ρ=>∃lb co,ρ=rd hs li (some (jT T pa d o ((pcs hs li (lads.take i)).map fun p=>(" ",p)))) (some (.val (.list (lads.map aO)))) sz lb (some (.own a ((pcs hs li (lads.take i)).map .str))) co wh na ls ta)
  ⟨lb,co,rfl⟩ (fun i hi ρ ⟨lb,co,e⟩=>?_) fun ρ ⟨lb,co,e⟩=>?_
 ·subst e
  have hi':i<lads.length:=by simpa using hi
  have hget:(lads.map aO)[i]=aO lads[i]:=by rw [List.getElem_map]
  refine ⟨rd hs li (some (jT T pa d o ((pcs hs li (lads.take i)).map fun p=>(" ",p)))) (some (.val (.list (lads.map aO)))) sz (some (.val (aO lads[i]))) (some (.own a ((pcs hs li (lads.take i)).map .str))) co wh na ls ta,by rw [hget]; exact aV (by exact aF 5 rfl rfl),?_⟩
  have hq:=ok _ (List.getElem_mem hi'); have k1:=hq.1; have k2:=hq.2.1; have k3:=hq.2.2.1; have k4:=hq.2.2.2
  have hstep:pcs hs li (lads.take (i+1))=pcs hs li (lads.take i)++[bE (iF hs li lads[i])]:=by
   unfold pcs
   rw [List.take_succ_eq_append_getElem hi',List.map_append]
   rfl
  refine fS (EO hC G U ao k1 hl k2 (by unfold pcs; rw [List.length_map,List.length_take]; omega) k3 k4) fun fl r ⟨e,co',e'⟩=>?_
  subst e
  rw [←hstep] at e'
  exact ⟨_,co',e'⟩
 ·subst e
  rw [List.length_map,List.take_length]
  exact hP lb co
end
section
variable {W:Wd} {C:Cx} {n:Nat} {ρ ρ' ρ'':aW} {P:Fl->aW->Prop} {K:Frag} {T cc fI fPush fPop fLen fStr fPc:Addr}
noncomputable abbrev fZ (ps:List Str):List Str:=ps.map fun p=>((" ":Str)++p)
noncomputable abbrev bA (ps:List Str):Str:=Txt.join "" (fZ ps)
theorem HI (hC:C.env.scope=aR (aT 21)) {hs:List (List Str)} {li:List (Nat×Nat)} {pg la sz lb co wh na ls ta:Option Bd} {a:Addr} {ps:List Str} (hz:∀p∈ps,p.length<=100000) (hn:ps.length<=100) (hjo:JoinOk "" (fZ ps)=true) :
  Ex W C (n+4) (rd hs li pg la sz lb (some (.own a (ps.map .str))) co wh na ls ta) (st21 5) (iS (rd hs li pg la sz lb (some (.own a (ps.map .str))) co (some (.val (.str (bA ps)))) na ls ta)):=by
 refine aY (gD (x:="pieces") (a:=a) (ρ':=rd hs li pg la sz lb (some (.val (.list (ps.map .str)))) co wh na ls ta) (by exact aB 6 rfl) (by exact aF 6 rfl rfl)
  (dG aS (aA (dA (d':=.list ((fZ ps).map .str)) (dO (xs:=ps) (emb:=.str) (far:=[]) (ρ₀:=[("piece",none)]) (fun p=>some (.str ((" ":Str)++p))) (by kernel_rfl) (bG (aC (by exact aB 6 rfl))) (fun p hp=>nomatch hp) (by rw [sizeLine_eq]; lia) fun C' B p hp=>?_) ?_) aD) (uN hjo)) trivial) (by exact aF 8 rfl rfl)
 ·refine gK (aV .head) (aJ aS (aC .head) (cI ?_))
  have:=hz p hp
  rw [sizeLine_eq]
  show 1+_<=_
  lia
 ·rw [bC,List.map_map]; rfl
end
section
variable {W:Wd} {C:Cx} {n:Nat} {ρ ρ' ρ'':aW} {P:Fl->aW->Prop}
noncomputable abbrev n5 (h:List Str):Str:=("z.":Str)++Txt.join "." h
theorem JS {hs:List (List Str)} {li:List (Nat×Nat)} {pg sz lb pi co wh na ls ta:Option Bd} {ds:List (List Str)} {h:List Str} (hn:ds.length<=100) (hjo:JoinOk "." h=true) (hjl:(Txt.join "." h).length<=1000) :
  Ex W C (n+4) (rd hs li pg (some (.val (.list (ds.map aO++[aO h])))) sz lb pi co wh na ls ta) (st21 6) (iS (rd hs li pg (some (.val (.list (ds.map aO++[aO h])))) sz lb pi co wh (some (.val (.str (n5 h)))) ls ta)):=by
 refine aY (aJ aS (dG aS (aA (a5 (aC (by exact aB 3 rfl)) (fN aH iU) (kT (d:=aO h) (by decide) (by rw [List.length_append,List.length_map]; simp; lia) (by decide) ?_)) aD) (uN hjo)) (cI ?_)) (by exact aF 9 rfl rfl)
 ·have:((-1:Int)+((ds.map aO++[aO h]).length:Int)).toNat=(ds.map aO).length:=by
   rw [List.length_append]
   show ((-1:Int)+(((ds.map aO).length+1:Nat):Int)).toNat=_
   lia
  simp only [this,List.getElem?_append_right (Nat.le_refl _),Nat.sub_self]
  rfl
 ·rw [sizeLine_eq]
  show 2+_<=_
  lia
end
section
variable {W:Wd} {C:Cx} {n:Nat} {ρ ρ' ρ'':aW} {P:Fl->aW->Prop} {K:Frag} {T cc fI fPush fPop fLen fStr fPc:Addr}
theorem AM {x y:Array UInt8} (hz:x.size+y.size<=16777216):lJ W n (binaryOp .Add) (.bytes x) (.bytes y) (.bytes (x++y)):=fun A s g E v u R B h1 h2=>by
 revert hz R B h1 h2;revert W n x y A s g E v u;refine no_implicit_lambda%(hK10 ?_);generalize (HK10 _).1=W,(HK10 _).2.1=n,(HK10 _).2.2.1=x,(HK10 _).2.2.2.1=y,(HK10 _).2.2.2.2.1=A,(HK10 _).2.2.2.2.2.1=s,(HK10 _).2.2.2.2.2.2.1=g,(HK10 _).2.2.2.2.2.2.2.1=E,(HK10 _).2.2.2.2.2.2.2.2.1=v,(HK10 _).2.2.2.2.2.2.2.2.2=u;intro hz R B h1 h2
 cases h1; cases h2; exact PySem.W.KBy.add_bytes hz fun t' k=>bD B (.bytes _ _)
noncomputable abbrev zK (x:Str):Array UInt8:=x.cps.map fun c=>c.toUInt8
theorem uZ (ps:List Str) (h:∀p∈ps,Txt.join "" [(" ":Str),p] = " " ++ p):gO (ps.map fun p=>((" ":Str),p))=fZ ps:=by
 unfold gO fZ
 rw [List.map_map]
 exact List.map_congr_left fun p hp=>h p hp
theorem D6 (hC:C.env.scope=aR (aT 21)) (G:Glb W) (U:PageW W K T cc fI fPush fPop fLen fStr fPc) {fF:Addr} (NF:FnName W "ParseFlags" fF) {hs:List (List Str)} {li:List (Nat×Nat)} {la sz lb pi co na ls ta:Option Bd} {pa d:Addr} {o:Obj} (ao:AccO o) {ps:List Str}
  (hz:∀p∈ps,p.length<=1000) (hn:ps.length<=50) (hj:gO (ps.map fun p=>((" ":Str),p))=fZ ps) (hjo:JoinOk "" (fZ ps)=true) (hlen:5+lens (ps.map fun p=>((" ":Str),p))=5+((bA ps).length:Int)) (hw:(bA ps).length<=900) (ha:(bA ps).cps.all (· < 128)=true)
  (hF:Fn W (n+6) fF [.bytes (zK (bA ps) ++ #[32,70,76,65,71,83,32,40,41])] (.tuple [])) {rest:List Stmt} (hr:cD W C (n+6) (rd hs li (some (jT T pa d o (ps.map fun p=>(" ",p)))) la sz lb pi co (some (.val (.str (bA ps)))) na ls ta) rest P) :
  cD W C (n+6) (rd hs li (some (jT T pa d o (ps.map fun p=>(" ",p)))) la sz lb pi co (some (.val (.str (bA ps)))) na ls ta) (st21 7::rest) P:=by
 have kS:C.env.kindOf "str" = some .globalImplicit:=aE hC (by kernel_rfl)
 have kL:C.env.kindOf "len" = some .globalImplicit:=aE hC (by kernel_rfl)
 have kP:C.env.kindOf "ParseFlags" = some .globalImplicit:=aE hC (by kernel_rfl)
 have hz':∀p∈ps.map (fun p=>((" ":Str),p)),p.1.length<=100000/\p.2.length<=100000:=fun p hp=>by
  obtain ⟨q,hq,rfl⟩:=List.mem_map.mp hp
  exact ⟨by show 1<=_; lia,by have:=hz q hq; show q.length<=_; lia⟩
 have es:∀ {p p' pos:Pos},Ev W C (n+1+5) (rd hs li (some (jT T pa d o (ps.map fun p=>(" ",p)))) la sz lb pi co (some (.val (.str (bA ps)))) na ls ta) (.Call (.Name "str" p) [.Name "page" p'] [] pos) (.str (bA ps)):=fun {p p' pos} =>
  dA (kD U G (x:="page") (by exact aB 2 rfl) hz' (by rw [hj]; exact hjo) (by rw [List.length_map,sizeLine_eq]; lia) kS) (by rw [hj])
 refine bX (b:=false) (dV (cF (.or (aN es (aC (by exact aB 8 rfl)) (gW rfl)) fun _=>.or (aN (xI (n:=n+1) U G (x:="page") (by exact aB 2 rfl) ao hz' (by rw [hlen]; lia) kL) (aJ aH (bT G.len.1 G.len.2 (aA (aC (by exact aB 8 rfl)) aD) (w7 (by lia)) kL) rB) (gW rfl)) fun _ =>
  .or (aN (bI NF (aA (aJ (dJ es (kM ha (by lia))) dX (AM ?_)) aD) hF kP) (bF aD) (gW rfl)) fun _=>.nil)) ?_) rfl hr
 ·rw [Array.size_map]
  have:(bA ps).cps.size<=900:=hw
  show _+9<=_
  lia
 ·have d1:eJ (.str (bA ps)) (.str (bA ps))=true:=by simp [rC,sC]
  have d2:eJ (.int (5+lens (ps.map fun p=>((" ":Str),p)))) (.int (5+((bA ps).length:Int)))=true:=by rw [hlen]; simp [rC,sC]
  rw [d1,d2]
  simp [PK,IU,OI,rC,sC,show i6 [] []=true from rfl]
end
section
variable {W:Wd} {C:Cx} {n:Nat} {ρ ρ' ρ'':aW} {P:Fl->aW->Prop}
noncomputable def RC (A B:Str):Bool:=sA (Txt.lower A) (Txt.lower B) (gP (Txt.lower A)) (gP (Txt.slice (Txt.lower B) (some 1) none))
structure DmAt (W:Wd) (f:Addr):Prop where
 d:DefAt W f (aT 14) ["A","B"]
 h:∃fH p,FnName W "is_HDN" fH/\DefAt W fH (aT 13) ["text"]/\W.mg "IPV4_RE" = some (.ref p)/\PatAt W p ipv 0 0 .none
noncomputable def LR (x:Str):Prop:=∀p,p<x.cps.size->x.cps.getD p 0≠10
theorem EA {f:Addr} {A B:Str} (D:DmAt W f) (hA:(Txt.lower A).length<=1000) (hB:(Txt.lower B).length<=1000) (hS:(Txt.slice (Txt.lower B) (some 1) none).length<=1000) (nA:LR (Txt.lower A)) (nB:LR (Txt.slice (Txt.lower B) (some 1) none)) :
  Fn W (n+3) f [.str A,.str B] (.bool (RC A B)):=by
 obtain ⟨fH,p,hq⟩:=D.h; have N:=hq.1; have H:=hq.2.1; have hm:=hq.2.2.1; have Pt:=hq.2.2.2
 exact J2 (n:=n+1) D.d N hA hB (fun _=>xY H hm Pt hA nA) (xY H hm Pt hS nB)
end
section
variable {W:Wd} {C:Cx} {n:Nat} {ρ ρ' ρ'':aW} {P:Fl->aW->Prop}
theorem uW {fD:Addr} {p1 p2 q1 q2 c1 c2 pos:Pos} {es fs:List Expr} {A B A' B':Str} {b b':Bool} {k1 k2:Nat} {r1 r2:Pos} {body rest:List Stmt} {ip:Pos} (NM:FnName W "domain_match" fD) (hk:C.env.kindOf "domain_match" = some .globalImplicit)
  (h1:w6 W C n ρ es [.str A,.str B]) (h2:w6 W C n ρ fs [.str A',.str B']) (w1:Fn W n fD [.str A,.str B] (.bool b)) (w2:Fn W n fD [.str A',.str B'] (.bool b'))
  (s1:autoParam (∀env pos,∃t ts,backTo pos (starEach es env)=(false,t)::ts) Mine.OC._auto_1) (s2:autoParam (∀env pos,∃t ts,backTo pos (starEach fs env)=(false,t)::ts) Mine.OC._auto_1) (hr:cD W C n ρ rest P) :
  cD W C n ρ (.If (.BoolOp .Or [.Compare (.Call (.Name "domain_match" p1) es [] q1) [.IsNot] [.Constant (.bool b) k1 r1] c1,.Compare (.Call (.Name "domain_match" p2) fs [] q2) [.IsNot] [.Constant (.bool b') k2 r2] c2] pos) body [] ip::rest) P:=by
 refine bX (b:=false) (dV (cF (.or (aN (bI NM h1 w1 hk s1) bO (d8 rfl)) fun _=>.or (aN (bI NM h2 w2 hk s2) bO (d8 rfl)) fun _=>.nil)) ?_) rfl hr
 cases b<;>cases b'<;>rfl
end
section
variable {W:Wd} {C:Cx} {n:Nat} {ρ ρ' ρ'':aW} {P:Fl->aW->Prop}
structure NameOk (W:Wd) (n:Nat) (fD:Addr) (N:Str):Prop where
 len:N.length<=900
 up:(Txt.upper N).length<=900
 a1:Fn W n fD [.str N,.str (Txt.upper N)] (.bool true)
 a2:Fn W n fD [.str N,.str "local"] (.bool false)
 b1:Fn W n fD [.str (("y.":Str)++N),.str ".z."] (.bool false)
 b2:Fn W n fD [.str (N++(".40":Str)),.str (Txt.slice N (some 1) none)] (.bool false)
 c1:Fn W n fD [.str ((".":Str)++N),.str (Txt.slice N (some 1) none)] (.bool false)
 c2:Fn W n fD [.str N,.str "."] (.bool false)
 d1:Fn W n fD [.str (N++(".40":Str)),.str (Txt.upper N++(".40":Str))] (.bool true)
 d2:Fn W n fD [.str (N++(".4.z":Str)),.str ".4.Z"] (.bool true)
theorem lS {x:Str} (h:x.length<=900):Builtin.Str.tooLong x.length=false:=by
 unfold Builtin.Str.tooLong
 exact decide_eq_false (by have:=sizeLine_eq; lia)
theorem CF (hC:C.env.scope=aR (aT 21)) {fD:Addr} (NM:FnName W "domain_match" fD) {N:Str} (ok:NameOk W n fD N) {rest:List Stmt} (hv:Has ρ "name" (.val (.str N))) (hr:cD W C n ρ rest P):cD W C n ρ (st21 8::rest) P:=by
 have k:C.env.kindOf "domain_match" = some .globalImplicit:=aE hC (by kernel_rfl)
 exact uW NM k (aA (aC hv) (aA (dJ (aC hv) (t7 (lS ok.up))) aD)) (aA (aC hv) (aA aS aD)) ok.a1 ok.a2 (hr:=hr)
theorem DQ (hC:C.env.scope=aR (aT 21)) {fD:Addr} (NM:FnName W "domain_match" fD) {N:Str} (ok:NameOk W n fD N) {rest:List Stmt} (hv:Has ρ "name" (.val (.str N))) (hr:cD W C n ρ rest P):cD W C n ρ (st21 11::rest) P:=by
 have k:C.env.kindOf "domain_match" = some .globalImplicit:=aE hC (by kernel_rfl)
 have h1:=ok.len
 have h2:=ok.up
 exact uW NM k (aA (aJ (aC hv) aS (cI (by rw [sizeLine_eq]; show _+3<=_; lia))) (aA (aJ (dJ (aC hv) (t7 (lS ok.up))) aS (cI (by rw [sizeLine_eq]; show _+3<=_; lia))) aD))
  (aA (aJ (aC hv) aS (cI (by rw [sizeLine_eq]; show _+4<=_; lia))) (aA aS aD)) ok.d1 ok.d2 (hr:=hr)
theorem CP (hC:C.env.scope=aR (aT 21)) {fD:Addr} (NM:FnName W "domain_match" fD) {N:Str} (ok:NameOk W n fD N) {rest:List Stmt} (hv:Has ρ "name" (.val (.str N))) (hr:cD W C n ρ rest P):cD W C n ρ (st21 9::st21 10::rest) P:=by
 have k:C.env.kindOf "domain_match" = some .globalImplicit:=aE hC (by kernel_rfl)
 have h1:=ok.len
 have sl:∀ {a b c e f:Pos},Ev W C n ρ (.Subscript (.Name "name" a) (.Slice (some (.Constant (.int 1) 0 b)) none none e) f) (.str (Txt.slice N (some 1) none)):=i5 (aC hv) (bZ aH) cT (by rw [sizeLine_eq]; lia)
 refine uW NM k (aA (aJ aS (aC hv) (cI (by rw [sizeLine_eq]; show 2+_<=_; lia))) (aA aS aD)) (aA (aJ (aC hv) aS (cI (by rw [sizeLine_eq]; show _+3<=_; lia))) (aA (sl (c:=⟨0,0,0,0⟩)) aD)) ok.b1 ok.b2 (hr:=?_)
 exact uW NM k (aA (aJ aS (aC hv) (cI (by rw [sizeLine_eq]; show 1+_<=_; lia))) (aA (sl (c:=⟨0,0,0,0⟩)) aD)) (aA (aC hv) (aA aS aD)) ok.c1 ok.c2 (hr:=hr)
end
section
variable {W:Wd} {C:Cx} {n:Nat} {ρ ρ' ρ'':aW} {P:Fl->aW->Prop} {K:Frag} {T cc fI fPush fPop fLen fStr fPc:Addr}
theorem IA {e:Expr} {k:Nat} {p p1 p2 pos:Pos} {ds:List Dat} (h:Ev W C n ρ e (.list ds)) (hz:ds.length<=sizeLine) :
  Ev W C n ρ (.Subscript e (.Slice none none (some (.UnaryOp .USub (.Constant (.int 1) k p1) p2)) p) pos) (.list ds.reverse):=
 sW h cT cT (bZ (fN aH iU)) (by decide) hz fun g vs r=>⟨vs.reverse,by rw [show (-1:Int) = -1 from rfl,krv_pick],zU r⟩
noncomputable def AK:Array UInt8:=[32,70,76,65,71,83,40,122,41,32,102,108,97,103,115,32,40,122,41,32,70,76,65,71,83,32,40,122].toArray
noncomputable def gR (ps:List Str) (j:Nat):Array UInt8:=if j=ps.length then AK else #[]
structure ReadOk (W:Wd) (n:Nat) (fF:Addr) (ps:List Str) (nm:Nat->List Dat):Prop where
 z:∀p∈ps,p.length<=1000
 len:ps.length<=50
 pairs:∀j,gO ((ps.take j).map fun p=>((" ":Str),p))=fZ (ps.take j)
 join:∀j,JoinOk "" (fZ (ps.take j))=true
 whole:∀j,(bA (ps.take j)).length<=900
 ascii:∀j,(bA (ps.take j)).cps.all (· < 128)=true
 fn:∀j,j<ps.length->Fn W n fF [.bytes (zK (bA (ps.take (j+1)))++gR ps (j+1))] (.tuple (nm j))
 e0:Fn W n fF [.bytes #[]] (.tuple [])
 e1:Fn W n fF [.bytes [32,70,76,65,71,83,32,40,122].toArray] (.tuple [])
 e2:Fn W n fF [.bytes [10,32,70,76,65,71,83,32,40,122,41].toArray] (.tuple [])
 e3:Fn W n fF [.bytes [70,76,65,71,83,32,40,121,10,32,122,41].toArray] (.tuple [.bytes #[121],.bytes #[122]])
noncomputable def fW (nm:Nat->List Dat) (N j:Nat):List Dat:=((List.range N).drop j).reverse.map fun i=>.tuple (nm i)
theorem y4 (nm:Nat->List Dat) {N j:Nat} (h:j<N):fW nm N j=fW nm N (j+1)++[.tuple (nm j)]:=by
 unfold fW
 rw [List.drop_eq_getElem_cons (by rw [List.length_range]; exact h),List.reverse_cons,List.map_append,List.getElem_range]
 rfl
theorem DL (nm:Nat->List Dat) (N:Nat):fW nm N N=[]:=by
 unfold fW
 rw [List.drop_of_length_le (by rw [List.length_range]; exact Nat.le_refl _)]
 rfl
theorem s7 (nm:Nat->List Dat) (N j:Nat):(fW nm N j).length=N-j:=by
 unfold fW
 rw [List.length_map,List.length_reverse,List.length_drop,List.length_range]
section
variable {hs:List (List Str)} {li:List (Nat×Nat)} {la sz lb co wh na ls ta:Option Bd} {pa d a:Addr} {o:Obj} {ps:List Str} {nm:Nat->List Dat} {fF:Addr}
noncomputable abbrev EE (T:Addr) (hs:List (List Str)) (li:List (Nat×Nat)) (la sz lb co wh na:Option Bd) (pa d a b:Addr) (o:Obj) (ps:List Str) (ls:List Dat) (tl:Array UInt8):aW:=
 rd hs li (some (jT T pa d o (ps.map fun p=>(" ",p)))) la sz lb (some (.own a (ps.map .str))) co wh na (some (.own b ls)) (some (.val (.bytes tl)))
theorem GW (hC:C.env.scope=aR (aT 21)) (G:Glb W) (U:PageW W K T cc fI fPush fPop fLen fStr fPc) (NF:FnName W "ParseFlags" fF) (ao:AccO o) (ok:ReadOk W (n+6) fF ps nm) {b:Addr} {tl:Array UInt8} (ht:tl=AK) (hne:0<ps.length)
  (hP:∀tl,P .next (EE T hs li la sz lb co wh na pa d a b o [] (fW nm ps.length 0) tl)) :
  Ex W C (n+6) (EE T hs li la sz lb co wh na pa d a b o ps [] tl) (st21 14) P:=by
 revert hC G U NF ao ok ht hne hP;revert W C n P K T cc fI fPush fPop fLen fStr fPc hs li la sz lb co wh na pa d a o ps nm fF b tl;refine no_implicit_lambda%(hK10 ?_);generalize (HK10 _).1=W,(HK10 _).2.1=C,(HK10 _).2.2.1=n,(HK10 _).2.2.2.1=P,(HK10 _).2.2.2.2.1=K,(HK10 _).2.2.2.2.2.1=T,(HK10 _).2.2.2.2.2.2.1=cc,(HK10 _).2.2.2.2.2.2.2.1=fI,(HK10 _).2.2.2.2.2.2.2.2.1=fPush,(HK10 _).2.2.2.2.2.2.2.2.2=fPop;refine no_implicit_lambda%(hK10 ?_);generalize (HK10 _).1=fLen,(HK10 _).2.1=fStr,(HK10 _).2.2.1=fPc,(HK10 _).2.2.2.1=hs,(HK10 _).2.2.2.2.1=li,(HK10 _).2.2.2.2.2.1=la,(HK10 _).2.2.2.2.2.2.1=sz,(HK10 _).2.2.2.2.2.2.2.1=lb,(HK10 _).2.2.2.2.2.2.2.2.1=co,(HK10 _).2.2.2.2.2.2.2.2.2=wh;refine no_implicit_lambda%(hK10 ?_);generalize (HK10 _).1=na,(HK10 _).2.1=pa,(HK10 _).2.2.1=d,(HK10 _).2.2.2.1=a,(HK10 _).2.2.2.2.1=o,(HK10 _).2.2.2.2.2.1=ps,(HK10 _).2.2.2.2.2.2.1=nm,(HK10 _).2.2.2.2.2.2.2.1=fF,(HK10 _).2.2.2.2.2.2.2.2.1=b,(HK10 _).2.2.2.2.2.2.2.2.2=tl;intro hC G U NF ao ok ht hne hP
 have kS:C.env.kindOf "str" = some .globalImplicit:=aE hC (by kernel_rfl)
 have kP:C.env.kindOf "ParseFlags" = some .globalImplicit:=aE hC (by kernel_rfl)
 refine HC ps.length (fun j ρ=>j<=ps.length/\∃tl,(0<j->tl=gR ps j)/\ρ=EE T hs li la sz lb co wh na pa d a b o (ps.take j) (fW nm ps.length j) tl)
  ⟨Nat.le_refl _,tl,fun _=>by rw [ht,gR,if_pos rfl],by rw [DL,List.take_length]⟩ fun j ρ ⟨hj,tl,htl,e⟩=>?_
 subst e
 have hl:(ps.take j).length=j:=by rw [List.length_take]; lia
 refine ⟨decide ((j:Int)>0),aN (dA (yI (n:=n+5) U (x:="page") (by exact aB 2 rfl) ao) (by rw [List.length_map,hl])) aH KY,fun hb=>?_,fun hb=>?_⟩
 ·have h0:0<j:=by have:=of_decide_eq_true hb; lia
  obtain ⟨j,rfl⟩:∃i,j=i+1:=⟨j-1,by lia⟩
  have hj':j<ps.length:=by lia
  have etl:=htl h0
  subst etl
  have hzp:∀p∈(ps.take (j+1)).map (fun p=>((" ":Str),p)),p.1.length<=100000/\p.2.length<=100000:=fun p hp=>by
   obtain ⟨q,hq,rfl⟩:=List.mem_map.mp hp
   exact ⟨by show 1<=_; lia,by have:=ok.z q (List.mem_of_mem_take hq); show q.length<=_; lia⟩
  revert j;refine no_implicit_lambda%(hK ?_);generalize HK _=j;intro hj hl hb h0 hj' htl _ hzp
  have hsplit:ps.take (j+1)=ps.take j++[ps[j]]:=List.take_succ_eq_append_getElem hj'
  have hps:=ok.len
  refine aI (ρ':=EE T hs li la sz lb co wh na pa d a b o (ps.take (j+1)) (fW nm ps.length (j+1)++[.tuple (nm j)]) (gR ps (j+1))) (lF (gC (by exact aB 10 rfl) (bI NF (aA (aJ (dJ (dA (d':=.str (bA (ps.take (j+1)))) (kD (n:=n+1) U G (x:="page") (by exact aB 2 rfl) hzp (by rw [ok.pairs]; exact ok.join _) (by rw [List.length_map,sizeLine_eq]; lia) kS) (by rw [ok.pairs]))
   (kM (ok.ascii _) (by have:=ok.whole (j+1); lia))) (aC (by exact aB 11 rfl)) (AM ?_)) aD) (ok.fn j hj') kP) (by exact aF 10 rfl rfl) (by rw [s7]; omega))) ?_
  ·have h1:(bA (ps.take (j+1))).cps.size<=900:=ok.whole (j+1)
   have h2:(gR ps (j+1)).size<=28:=by
    unfold gR
    split
    ·decide
    ·exact Nat.zero_le _
   show (Array.map _ _).size+_<=_
   rw [Array.size_map]
   lia
  rw [←y4 nm hj']
  have ee:EE T hs li la sz lb co wh na pa d a b o (ps.take (j+1)) (fW nm ps.length j) (gR ps (j+1))=rd hs li (some (jT T pa d o ((ps.take j).map (fun p=>(((" ":Str),p):Str×Str))++[(((" ":Str),ps[j]):Str×Str)]))) la sz lb (some (.own a ((ps.take j).map .str++[.str ps[j]]))) co wh na (some (.own b (fW nm ps.length j))) (some (.val (.bytes (gR ps (j+1))))):=by
   rw [hsplit]
   unfold EE
   rw [List.map_append,List.map_append]
   rfl
  rw [ee]
  refine aP (P':=iS (EE T hs li la sz lb co wh na pa d a b o (ps.take j) (fW nm ps.length j) (gR ps (j+1)))) (FA (b:=false) (xW (ρ':=rd hs li (some (jT T pa d o ((ps.take j).map fun p=>(" ",p)))) la sz lb (some (.own a ((ps.take j).map .str++[.str ps[j]]))) co wh na (some (.own b (fW nm ps.length j))) (some (.val (.bytes (gR ps (j+1))))))
   (HW (n:=n+3) (x:="page") U (ps:=(ps.take j).map fun p=>(" ",p)) (y:=" ") (z:=ps[j]) (by rw [←List.map_singleton,←List.map_append]; repeat constructor) ao (by rw [List.length_map,List.length_take]; exact Nat.le_trans (Nat.min_le_right _ _) (Nat.le_trans ok.len (by decide))) (by exact aF 2 rfl rfl)) (E5 aS (IJ (x:="pieces") (d:=.str ps[j]) (by exact aB 6 rfl) (by exact aF 6 rfl rfl) (by rw [List.length_map,List.length_take]; exact Nat.le_trans (Nat.min_le_right _ _) (Nat.le_trans ok.len (by decide))))) ?_) (fun h=>nomatch h) fun _=>aQ ⟨rfl,rfl⟩) (fun r ⟨_,e⟩=>?_) fun fl r hne' ⟨e,_⟩=>absurd e hne'
  ·have:=gW (W:=W) (n:=n+5) (d:=.tuple [.str " ",.str ps[j]]) (e:=.tuple [.str " ",.str ps[j]]) rfl
   rw [cM] at this
   exact this
  ·subst e
   refine aI (aY dX (by exact aF 11 rfl rfl)) (aQ ⟨j,Nat.lt_succ_self _,by lia,#[],fun h=>?_,rfl⟩)
   rw [gR,if_neg (by lia)]
 ·have h0:j=0:=by have:=of_decide_eq_false hb; lia
  subst h0
  exact hP tl
end
end
section
variable {W:Wd} {C:Cx} {n:Nat} {ρ ρ' ρ'':aW} {P:Fl->aW->Prop} {K:Frag} {T cc fI fPush fPop fLen fStr fPc:Addr}
section
variable {hs:List (List Str)} {li:List (Nat×Nat)} {la sz lb co wh na ls ta:Option Bd} {pa d a:Addr} {o:Obj} {ps:List Str} {nm:Nat->List Dat} {fF:Addr}
theorem IX (hC:C.env.scope=aR (aT 21)) (G:Glb W) (U:PageW W K T cc fI fPush fPop fLen fStr fPc) (NF:FnName W "ParseFlags" fF) (ao:AccO o) (ok:ReadOk W (n+6) fF ps nm) {b:Addr} {ds:List Dat} {tl:Array UInt8} {rest:List Stmt}
  (hr:cD W C (n+6) (EE T hs li la sz lb co wh na pa d a b o [] ds tl) rest P) :
  cD W C (n+6) (EE T hs li la sz lb co wh na pa d a b o [] ds tl) (st21 15::rest) P:=by
 have kS:C.env.kindOf "str" = some .globalImplicit:=aE hC (by kernel_rfl)
 have kP:C.env.kindOf "ParseFlags" = some .globalImplicit:=aE hC (by kernel_rfl)
 refine bX (b:=false) (dV (cF (.or (aN (DZ (n:=n+3) (x:="page") U (by exact aB 2 rfl) ao) (bF (aA aS (aA aS aD))) (gW (d:=.tuple [.str "",.str ""]) (e:=.tuple [.str "",.str ""]) rfl)) fun _ =>
  .or (aN (bI NF (aA (dA (d':=.bytes #[]) (dJ (kD (n:=n+1) U G (x:="page") (ps:=[]) (by exact aB 2 rfl) (fun p hp=>nomatch hp) (by decide +kernel) (Nat.zero_le _) kS) (kM (by decide +kernel) (by decide +kernel))) (by kernel_rfl)) aD) ok.e0 kP) (bF aD) (gW (d:=.tuple []) (e:=.tuple []) rfl)) fun _ =>
  .or (aN (bI NF (aA dX aD) ok.e1 kP) (bF aD) (gW (d:=.tuple []) (e:=.tuple []) rfl)) fun _=>.nil)) ?_) rfl hr
 rfl
theorem JC (hC:C.env.scope=aR (aT 21)) (NF:FnName W "ParseFlags" fF) (ok:ReadOk W n fF ps nm) {rest:List Stmt} {m:Nat} (hn:n=m+1)
  (hr:cD W C n ρ rest P):cD W C n ρ (st21 16::rest) P:=by
 subst hn
 have kP:C.env.kindOf "ParseFlags" = some .globalImplicit:=aE hC (by kernel_rfl)
 refine bX (b:=false) (dV (cF (.or (aN (bI NF (aA dX aD) ok.e2 kP) (bF aD) (gW (d:=.tuple []) (e:=.tuple []) rfl)) fun _ =>
  .or (aN (bI NF (aA dX aD) ok.e3 kP) (bF (aA dX (aA dX aD))) (gW (d:=.tuple [.bytes #[121],.bytes #[122]]) (e:=.tuple [.bytes #[121],.bytes #[122]]) rfl)) fun _=>.nil)) ?_) rfl hr
 rfl
theorem zO (nm:Nat->List Dat) (N:Nat):(fW nm N 0).reverse=(List.range N).map fun i=>.tuple (nm i):=by
 unfold fW
 rw [List.drop_zero,←List.map_reverse,List.reverse_reverse]
theorem LE (hC:C.env.scope=aR (aT 21)) (G:Glb W) (U:PageW W K T cc fI fPush fPop fLen fStr fPc) (NF:FnName W "ParseFlags" fF) (ao:AccO o) (ok:ReadOk W (n+6) fF ps nm) (hne:0<ps.length)
  (hP:∀ρ,P (.ret (.list ((List.range ps.length).map fun i=>.tuple (nm i)))) ρ) :
  cD W C (n+6) (rd hs li (some (jT T pa d o (ps.map fun p=>(" ",p)))) la sz lb (some (.own a (ps.map .str))) co wh na none none) [st21 12,st21 13,st21 14,st21 15,st21 16,st21 17] P:=by
 refine iG (dZ aD) (hp:=fun b=>⟨rd hs li (some (jT T pa d o (ps.map fun p=>(" ",p)))) la sz lb (some (.own a (ps.map .str))) co wh na (some (.own b [])) none,by exact aF 10 rfl rfl,?_⟩)
 refine aI (ρ':=EE T hs li la sz lb co wh na pa d a b o ps [] AK) (aY dX (by exact aF 11 rfl rfl)) ?_
 refine aP (P':=fun fl r=>fl=.next/\∃tl,r=EE T hs li la sz lb co wh na pa d a b o [] (fW nm ps.length 0) tl) (GW hC G U NF ao ok rfl hne fun tl=>⟨rfl,tl,rfl⟩) (fun r ⟨_,tl,e⟩=>?_) fun fl r hne' ⟨e,_⟩=>absurd e hne'
 subst e
 refine IX hC G U NF ao ok (JC hC NF ok rfl ?_)
 have hps:=ok.len
 refine dK (x:="lists") (a:=b) (ρ':=rd hs li (some (jT T pa d o [])) la sz lb (some (.own a [])) co wh na (some (.val (.list (fW nm ps.length 0)))) (some (.val (.bytes tl)))) (by exact aB 10 rfl) (by exact aF 10 rfl rfl) ?_
 refine cN (IA (aC (by exact aB 10 rfl)) (by rw [s7,sizeLine_eq]; lia)) ?_
 rw [zO]
 exact hP _
end
structure ReadAll (W:Wd) (n:Nat) (fF fD:Addr) (hs:List (List Str)) (li:List (Nat×Nat)) (srt:List (Nat×List Str)) (ini:List (List Str)) (h:List Str) (nm:Nat->List Dat):Prop where
 hh:∀h∈hs,h.length<=1000
 hl:hs.length<=50
 hsrt:eO (hs.map fun h=>jP (h.length,h))=some (srt.map jP)
 hz:srt.length<=50
 kin:∀p∈srt,∀q∈srt,kin 8 (aO p.2) (aO q.2)=true
 lads:lad (srt.map (·.2))=ini++[h]
 len:(ini++[h]).length<=50
 ok:∀lb∈ini++[h],LadOk hs lb/\lb.length<=1000/\JoinOk " \t" ((iF hs li lb).map letter)=true/\(Txt.join " \t" ((iF hs li lb).map letter)).length<=1000
 read:ReadOk W (n+6) fF (pcs hs li (ini++[h])) nm
 lens:5+lens ((pcs hs li (ini++[h])).map fun p=>((" ":Str),p))=5+((bA (pcs hs li (ini++[h]))).length:Int)
 test:Fn W (n+6) fF [.bytes (zK (bA (pcs hs li (ini++[h]))) ++ #[32,70,76,65,71,83,32,40,41])] (.tuple [])
 join:JoinOk "." h=true
 joinl:(Txt.join "." h).length<=1000
 name:NameOk W (n+6) fD (n5 h)
theorem CK {f fF fD:Addr} (D:DefAt W f (aT 21) ["hosts","lies"]) (G:Glb W) (U:PageW W K T cc fI fPush fPop fLen fStr fPc) (NF:FnName W "ParseFlags" fF) (ND:FnName W "domain_match" fD)
  {hs:List (List Str)} {li:List (Nat×Nat)} {srt:List (Nat×List Str)} {ini:List (List Str)} {h:List Str} {nm:Nat->List Dat} (R:ReadAll W n fF fD hs li srt ini h nm) :
  Fn W (n+7) f [cC hs,gG li] (.list ((List.range (ini.length+1)).map fun i=>.tuple (nm i))):=by
 revert D G U NF ND R;revert W n K T cc fI fPush fPop fLen fStr fPc f fF fD hs li srt ini h nm;refine no_implicit_lambda%(hK10 ?_);generalize (HK10 _).1=W,(HK10 _).2.1=n,(HK10 _).2.2.1=K,(HK10 _).2.2.2.1=T,(HK10 _).2.2.2.2.1=cc,(HK10 _).2.2.2.2.2.1=fI,(HK10 _).2.2.2.2.2.2.1=fPush,(HK10 _).2.2.2.2.2.2.2.1=fPop,(HK10 _).2.2.2.2.2.2.2.2.1=fLen,(HK10 _).2.2.2.2.2.2.2.2.2=fStr;refine no_implicit_lambda%(hK10 ?_);generalize (HK10 _).1=fPc,(HK10 _).2.1=f,(HK10 _).2.2.1=fF,(HK10 _).2.2.2.1=fD,(HK10 _).2.2.2.2.1=hs,(HK10 _).2.2.2.2.2.1=li,(HK10 _).2.2.2.2.2.2.1=srt,(HK10 _).2.2.2.2.2.2.2.1=ini,(HK10 _).2.2.2.2.2.2.2.2.1=h,(HK10 _).2.2.2.2.2.2.2.2.2=nm;intro D G U NF ND R
 have hpl:(pcs hs li (ini++[h])).length=ini.length+1:=by
  unfold pcs
  rw [List.length_map,List.length_append]
  rfl
 refine jY (rest:=["page","ladder","size","labels","pieces","company","whole","name","lists","tail"]) D (by kernel_rfl) rfl fun C hC hf=>?_
 refine IT U (n:=n+5) (x:="page") (aE hC (by kernel_rfl)) fun pa d o ao=>⟨rd hs li (some (jT T pa d o [])) none none none none none none none none none,by exact aF 2 rfl rfl,?_⟩
 refine iG (dZ aD) (hp:=fun la=>⟨rd hs li (some (jT T pa d o [])) (some (.own la [])) none none none none none none none none,by exact aF 3 rfl rfl,?_⟩)
 refine aP (P':=fun fl r=>fl=.next/\∃sz lb,r=rd hs li (some (jT T pa d o [])) (some (.own la ((ini++[h]).map aO))) sz lb none none none none none none)
  (DF (n:=n+2) hC G R.hh R.hl R.hsrt R.hz R.kin fun sz lb=>⟨rfl,sz,lb,by rw [R.lads]⟩) (fun r ⟨_,sz,lb,e⟩=>?_) fun fl r hne ⟨e,_⟩=>absurd e hne
 subst e
 refine dK (x:="ladder") (a:=la) (ρ':=rd hs li (some (jT T pa d o [])) (some (.val (.list ((ini++[h]).map aO)))) sz lb none none none none none none) (by exact aB 3 rfl) (by exact aF 3 rfl rfl) ?_
 refine iG (dZ aD) (hp:=fun pi=>⟨rd hs li (some (jT T pa d o [])) (some (.val (.list ((ini++[h]).map aO)))) sz lb (some (.own pi [])) none none none none none,by exact aF 6 rfl rfl,?_⟩)
 refine aP (P':=fun fl r=>fl=.next/\∃lb co,r=rd hs li (some (jT T pa d o ((pcs hs li (ini++[h])).map fun p=>(" ",p)))) (some (.val (.list ((ini++[h]).map aO)))) sz lb (some (.own pi ((pcs hs li (ini++[h])).map .str))) co none none none none)
  (BW (n:=n+2) hC G U ao R.ok R.hl (by have:=R.len; lia) fun lb co=>⟨rfl,lb,co,rfl⟩) (fun r ⟨_,lb,co,e⟩=>?_) fun fl r hne ⟨e,_⟩=>absurd e hne
 subst e
 have hz:∀p∈pcs hs li (ini++[h]),p.length<=1000:=R.read.z
 have hjo:JoinOk "" (fZ (pcs hs li (ini++[h])))=true:=by
  have:=R.read.join (pcs hs li (ini++[h])).length
  rwa [List.take_length] at this
 have hpa:gO ((pcs hs li (ini++[h])).map fun p=>((" ":Str),p))=fZ (pcs hs li (ini++[h])):=by
  have:=R.read.pairs (pcs hs li (ini++[h])).length
  rwa [List.take_length] at this
 have hw:(bA (pcs hs li (ini++[h]))).length<=900:=by
  have:=R.read.whole (pcs hs li (ini++[h])).length
  rwa [List.take_length] at this
 have has:(bA (pcs hs li (ini++[h]))).cps.all (· < 128)=true:=by
  have:=R.read.ascii (pcs hs li (ini++[h])).length
  rwa [List.take_length] at this
 have hlen:(pcs hs li (ini++[h])).length<=50:=R.read.len
 refine aI (HI (n:=n+2) hC (fun p hp=>by have:=hz p hp; lia) (by lia) hjo) ?_
 refine aI (ρ':=rd hs li (some (jT T pa d o ((pcs hs li (ini++[h])).map fun p=>(" ",p)))) (some (.val (.list ((ini++[h]).map aO)))) sz lb (some (.own pi ((pcs hs li (ini++[h])).map .str))) co (some (.val (.str (bA (pcs hs li (ini++[h])))))) (some (.val (.str (n5 h)))) none none) ?_ ?_
 ·have:=JS (W:=W) (C:=C) (n:=n+2) (hs:=hs) (li:=li) (pg:=some (jT T pa d o ((pcs hs li (ini++[h])).map fun p=>(" ",p)))) (sz:=sz) (lb:=lb) (pi:=some (.own pi ((pcs hs li (ini++[h])).map .str))) (co:=co) (wh:=some (.val (.str (bA (pcs hs li (ini++[h])))))) (na:=none) (ls:=none) (ta:=none) (ds:=ini) (h:=h) (by have:=R.len; rw [List.length_append] at this; lia) R.join R.joinl
  rw [List.map_append]
  exact this
 refine D6 hC G U NF ao hz hlen hpa hjo R.lens hw has R.test ?_
 refine CF hC ND R.name (by exact aB 9 rfl) (CP hC ND R.name (by exact aB 9 rfl) (DQ hC ND R.name (by exact aB 9 rfl) ?_))
 refine LE hC G U NF ao R.read (by rw [hpl]; lia) fun ρ=>.inl ?_
 rw [hpl]
end
section
variable {W:Wd} {C:Cx} {n:Nat} {ρ ρ' ρ'':aW} {P:Fl->aW->Prop}
theorem zP {prog:Program} {w:World} {A:Around} {R:Result->Shared->Prop} {s:Shared} {elt:Expr} {g1:Comprehension} {target iter:Expr} {ifs:List Expr} {scope:Scope} {pos:Pos} {it acc:Value} {env:Env}
  (h0:codeAny (model prog w) A (.compLoop (.ListComp elt [g1,⟨target,iter,ifs,0⟩] scope pos) 1 it acc env) R s)
  (h:wpAny (model prog w) A (pyIter it) (fun it' s'=>codeAny (model prog w) A (.compLoop (.ListComp elt [g1,⟨target,iter,ifs,0⟩] scope pos) 1 it' acc env) R s')
   (notedBy (model prog w) A env fun x s'=>R (.error x) s') s) :
  codeAny (model prog w) A (.compStart (.ListComp elt [g1,⟨target,iter,ifs,0⟩] scope pos) 1 it acc env) R s:=by
 refine codeAny_of_tree ?_
 show wpAny _ _ ((compStart (.ListComp elt [g1,⟨target,iter,ifs,0⟩] scope pos) 1 it acc env).onRaise (fun x=>do noteFrame x env; standAt theWindowsPlace)) _ _ s
 refine wpAny_notedAt ?_
 unfold compStart
 refine wpAny_bind (wpAny_askSetting (wpAny_ite ?_))
 split
 ·first
   | exact wpAny_bind (wpAny_pure (wpAny_pure (And.intro rfl h0)))
   | exact wpAny_pure (And.intro rfl h0)
 ·first
   | exact wpAny_bind (wpAny_rule (wpAny_bind (wpAny_standAt (wpAny_bind (wpAny_mono h (fun it' s' h'=>wpAny_pure (And.intro rfl h')) fun _ _ x=>x)))))
   | (refine wpAny_bind (wpAny_rule ?_); show wpAny _ _ (standAt iter.pos>>=_) _ _ s; exact wpAny_bind (wpAny_standAt (wpAny_bind (wpAny_mono h (fun it' s' h'=>wpAny_pure (And.intro rfl h')) fun _ _ x=>x))))
theorem CJ (elt target iter:Expr) (g2:Comprehension) (scope:Scope) (pos:Pos) (it acc:Value) (env:Env) :
  compTurn (.ListComp elt [⟨target,iter,[],0⟩,g2] scope pos) 0 it acc env=(do
   standAt iter.pos
   match←pyNext it with
   | none=>pure (.done .next)
   | some v =>
    letOwnedTupleGo target it v
    assign target env v
    let x←eval g2.iter env
    standAt g2.iter.pos
    let x←if g2.is_async != 0 then foldedIterable g2.iter x else foldedSetIterable g2.iter env x
    let _←runOwn (.compStart (.ListComp elt [⟨target,iter,[],0⟩,g2] scope pos) 1 (← holding [x] (if g2.is_async != 0 then asyncIter x else pyIter x)) acc env) env
    again (.compLoop (.ListComp elt [⟨target,iter,[],0⟩,g2] scope pos) 0 it acc env)):=by rfl
theorem zC (elt t1 i1:Expr) (g2:Comprehension) (scope:Scope) (pos:Pos) (it acc:Value) (env:Env) :
  compTurn (.ListComp elt [⟨t1,i1,[],0⟩,g2] scope pos) 0 it acc env=mY (.ListComp elt [⟨t1,i1,[],0⟩,g2] scope pos) 0 it acc env t1 i1 (u3 (.ListComp elt [⟨t1,i1,[],0⟩,g2] scope pos) 0 acc env g2):=by
 revert elt t1 i1 g2 scope pos it acc env;refine no_implicit_lambda%(hK9 ?_);generalize (HK9 _).1=elt,(HK9 _).2.1=t1,(HK9 _).2.2.1=i1,(HK9 _).2.2.2.1=g2,(HK9 _).2.2.2.2.1=scope,(HK9 _).2.2.2.2.2.1=pos,(HK9 _).2.2.2.2.2.2.1=it,(HK9 _).2.2.2.2.2.2.2.1=acc,(HK9 _).2.2.2.2.2.2.2.2=env
 rw [CJ]
 unfold mY u3
 refine congrArg (bind (standAt i1.pos)) (funext fun _=>congrArg (bind (pyNext it)) (funext fun r=>?_))
 cases r with
 | none=>rfl
 | some v =>
  refine congrArg (bind (letOwnedTupleGo t1 it v)) (funext fun _=>congrArg (bind (assign t1 env v)) (funext fun _=>?_))
  rw [bind_assoc]
  refine congrArg (bind _) (funext fun x=>?_)
  rw [bind_assoc]
  refine congrArg (bind _) (funext fun x=>?_)
  cases (g2.is_async != 0)<;>simp only [bind_assoc,pure_bind,Bool.false_eq_true,↓reduceIte,Nat.zero_add]
theorem BY (elt target iter:Expr) (ifs:List Expr) (g1:Comprehension) (scope:Scope) (pos:Pos) (it acc:Value) (env:Env) :
  compTurn (.ListComp elt [g1,⟨target,iter,ifs,0⟩] scope pos) 1 it acc env=(do
   standAt iter.pos
   match←pyNext it with
   | none=>pure (.done .next)
   | some v =>
    letOwnedTupleGo target it v
    assign target env v
    let mut ok:=true
    for c in ifs do
     if ok then ok←isTrue c env (eval c env)
    if ok then
     (do let _←call (.builtin "list.append") [acc,←eval elt env])
    again (.compLoop (.ListComp elt [g1,⟨target,iter,ifs,0⟩] scope pos) 1 it acc env)):=by rfl
theorem yG (elt:Expr) (g1:Comprehension) (t2 i2:Expr) (f2:List Expr) (scope:Scope) (pos:Pos) (it acc:Value) (env:Env) :
  compTurn (.ListComp elt [g1,⟨t2,i2,f2,0⟩] scope pos) 1 it acc env=mY (.ListComp elt [g1,⟨t2,i2,f2,0⟩] scope pos) 1 it acc env t2 i2 (oK f2 env (oF elt acc env)):=by
 revert elt g1 t2 i2 f2 scope pos it acc env;refine no_implicit_lambda%(hK10 ?_);generalize (HK10 _).1=elt,(HK10 _).2.1=g1,(HK10 _).2.2.1=t2,(HK10 _).2.2.2.1=i2,(HK10 _).2.2.2.2.1=f2,(HK10 _).2.2.2.2.2.1=scope,(HK10 _).2.2.2.2.2.2.1=pos,(HK10 _).2.2.2.2.2.2.2.1=it,(HK10 _).2.2.2.2.2.2.2.2.1=acc,(HK10 _).2.2.2.2.2.2.2.2.2=env
 rw [BY]
 unfold mY oK oF
 refine congrArg (bind (standAt i2.pos)) (funext fun _=>congrArg (bind (pyNext it)) (funext fun r=>?_))
 cases r with
 | none=>rfl
 | some v =>
  refine congrArg (bind (letOwnedTupleGo t2 it v)) (funext fun _=>congrArg (bind (assign t2 env v)) (funext fun _=>?_))
  rw [bind_assoc]
  refine congrArg (bind _) (funext fun ok=>?_)
  cases ok<;>rfl
theorem BR {α:Type} {xs:List α} {emb:α->Dat} {G:α->List Dat} {D:Addr} {ρ₀ ρ:aW} {elt t1 i1 t2 i2:Expr} {f2:List Expr} {scope:Scope} {pos:Pos} (hit:J9 W C n ρ i2 (xs.map emb))
  (act:∀a∈xs,∃ρ₁,DW W C n t2 (emb a) ρ ρ₁/\(∀x b k ds,(x,some (Bd.ownK b k ds))∉ρ₁)/\LX W C n D ρ ρ₁ (oK f2 C.env (oF elt (.ref D) C.env)) (G a)) (hs:Sub ρ₀ ρ)
  (hf:autoParam (∀env x,foldedSetIterable i2 env x=pure x) Mine.eM._auto_1) :
  LX W C n D ρ₀ ρ (u3 (.ListComp elt [⟨t1,i1,[],0⟩,⟨t2,i2,f2,0⟩] scope pos) 0 (.ref D) C.env ⟨t2,i2,f2,0⟩) (xs.flatMap G):=fun A s g E ys R K hz=>by
 revert hit act hs hf R K hz;revert W C n α xs emb G D ρ₀ ρ elt t1 i1 t2 i2 f2 scope pos A s g E ys;refine no_implicit_lambda%(hK4 ?_);generalize (HK4 _).1=W,(HK4 _).2.1=C,(HK4 _).2.2.1=n,(HK4 _).2.2.2=α;refine no_implicit_lambda%(hK10 ?_);generalize (HK10 _).1=xs,(HK10 _).2.1=emb,(HK10 _).2.2.1=G,(HK10 _).2.2.2.1=D,(HK10 _).2.2.2.2.1=ρ₀,(HK10 _).2.2.2.2.2.1=ρ,(HK10 _).2.2.2.2.2.2.1=elt,(HK10 _).2.2.2.2.2.2.2.1=t1,(HK10 _).2.2.2.2.2.2.2.2.1=i1,(HK10 _).2.2.2.2.2.2.2.2.2=t2;refine no_implicit_lambda%(hK9 ?_);generalize (HK9 _).1=i2,(HK9 _).2.1=f2,(HK9 _).2.2.1=scope,(HK9 _).2.2.2.1=pos,(HK9 _).2.2.2.2.1=A,(HK9 _).2.2.2.2.2.1=s,(HK9 _).2.2.2.2.2.2.1=g,(HK9 _).2.2.2.2.2.2.2.1=E,(HK9 _).2.2.2.2.2.2.2.2=ys;intro hit act hs hf R K hz
 unfold u3
 refine wpAny_bind (wpAny_mono (hit A s g E R K.st) (fun x s₁ hM=>?_) fun _ _ e=>e)
 refine wpAny_bind (wpAny_standAt ?_)
 refine wpAny_bind (wpAny_of_eq (by exact hf _ _) ?_)
 refine wpAny_bind (wpAny_holding (wpAny_mono hM (fun it s₂ ⟨g₂,J,e,x₂,hJ,hgJ,hat⟩=>?_) fun _ _ e=>e))
 subst e
 have K₂:=K.step x₂
 have hJ0:C.s0.heap.get? J=none:=eZ K.st.base0 K.st.ext hJ
 have loop:codeAny (model W.prog W.w) A (.compLoop (.ListComp elt [⟨t1,i1,[],0⟩,⟨t2,i2,f2,0⟩] scope pos) 1 (.ref J) (.ref D) C.env) (fun r s'=>∃f,r=.ok f/\∃g',CS W C D ρ₀ (ys++xs.flatMap G) s' g'/\∀p∈g,p∈g') s₂:=by
  refine sY (yG ..) R K₂ hJ0 hgJ hat hz act fun s' g' K' hg=>⟨_,rfl,g',K'.sub hs,fun p hp=>hg p (x₂.sub p hp)⟩
 obtain ⟨fp,Pv,Stt,hq⟩:=hat; have Wk:=hq.1; have st0:=hq.2.1
 refine wpAny_bind (wpAny_runOwn (codeAny_mono (zP loop (Wk.self 0 _ _ _ st0 loop)) fun r s' q=>?_))
 obtain ⟨f,rfl,q⟩:=q
 exact wpAny_pure q
end
section
variable {W:Wd} {C:Cx} {n:Nat} {ρ ρ' ρ'':aW} {P:Fl->aW->Prop}
theorem qH {b c:Bool}:lJ W n (compareOp .NotEq) (.bool b) (.bool c) (.bool (b != c)):=fun A s g E v u R B h1 h2=>by
 revert W n b c A s g E v u;refine no_implicit_lambda%(hK10 ?_);generalize (HK10 _).1=W,(HK10 _).2.1=n,(HK10 _).2.2.1=b,(HK10 _).2.2.2.1=c,(HK10 _).2.2.2.2.1=A,(HK10 _).2.2.2.2.2.1=s,(HK10 _).2.2.2.2.2.2.1=g,(HK10 _).2.2.2.2.2.2.2.1=E,(HK10 _).2.2.2.2.2.2.2.2.1=v,(HK10 _).2.2.2.2.2.2.2.2.2=u;intro R B h1 h2
 cases h1; cases h2
 exact ne_bool (aZ B (.bool _))
theorem pY {x:Str} {p pos cpos:Pos} {elt:Expr} {gens:List Comprehension} {scope:Scope} {d:Dat} (h:Ev W C n ρ (.ListComp elt gens scope cpos) d) (hp:Put x (some (.val d)) ρ ρ') (hk:C.env.kindOf x=some .cell) :
  Ex W C n ρ (.Assign [.Name x p] (.ListComp elt gens scope cpos) pos) (iS ρ'):=fun A s g E R S =>
 wpAny_Assign_Name (go3 (h A s g E R S) (fun v s₁ g₁ x₁ hM=>(S.step x₁).store hp hM fun s' S' _=>⟨.next,ρ',g₁,⟨rfl,rfl⟩,S',x₁.sub,trivial⟩)) (by
  show (pure (C.env.blockKind==.function&&C.env.kindOf x==some .local&&p.line==cpos.line && !(scope.names.any fun (n,k)=>n==x&&(k==.local||k==.cell))):Sem Bool)=pure false
  rw [hk]
  have:((some NameKind.cell:Option NameKind)==some NameKind.local)=false:=rfl
  rw [this,Bool.and_false,Bool.false_and,Bool.false_and])
theorem G7 {α:Type} {xs:List α} {emb:α->Dat} {G:α->List Dat} {elt target iter:Expr} {ifs:List Expr} {rest:List Comprehension} {scope:Scope} {pos spos py:Pos} {y:Str} {far:List (Str×Dat)} {ρ₀:aW}
  (ok:n6 scope far ρ₀=true) (hit:J9 W C n ρ iter (xs.map emb)) (hcap:∀p∈far,Cap C ρ p.1 p.2) (hz:(xs.flatMap G).length<=sizeLine)
  (turn:∀C':Cx,Blk scope C.env C' far->∀(D:Addr) (it:Value),∃t,compTurn (.ListComp elt (⟨target,iter,ifs,0⟩::rest) scope pos) 0 it (.ref D) C'.env=mY (.ListComp elt (⟨target,iter,ifs,0⟩::rest) scope pos) 0 it (.ref D) C'.env target iter t /\
   ∀a∈xs,∃ρ₁,DW W C' n target (emb a) ρ₀ ρ₁/\(∀x b k ds,(x,some (Bd.ownK b k ds))∉ρ₁)/\LX W C' n D ρ₀ ρ₁ t (G a)) (hp:Put y (some (.val (.list (xs.flatMap G)))) ρ ρ')
  (hk:C.env.kindOf y=some .local) (hl:autoParam ((py.line==pos.line)=true) Mine.dG._auto_1) (hno:autoParam ((scope.names.any fun (n,k)=>n==y&&(k==.local||k==.cell))=false) Mine.jJ._auto_1) (hs:autoParam (∀env x,foldedSetIterable iter env x=pure x) Mine.eM._auto_1) :
  Ex W C n ρ (.Assign [.Name y py] (.ListComp elt (⟨target,iter,ifs,0⟩::rest) scope pos) spos) (iS ρ'):=fun A s g E R S=>by
 have O:=k9 ok
 obtain ⟨cl,hcl,h1,h2,h3⟩:=lR (env:=C.env) (scope:=scope) fun x hx=>by
  obtain ⟨d,hd⟩:=O.free x hx
  obtain ⟨c,v,hq⟩:=(hcap _ hd).at S; have e:=hq.1
  exact ⟨c,e⟩
 have hsw:swapsWith (.ListComp elt (⟨target,iter,ifs,0⟩::rest) scope pos) (some (.Name y py)) spos.line C.env=pure true:=by
  show (pure (C.env.blockKind==.function&&C.env.kindOf y==some .local&&py.line==pos.line && !(scope.names.any fun (n,k)=>n==y&&(k==.local||k==.cell))):Sem Bool)=pure true
  rw [hno,hk,hl]
  have:C.env.blockKind=.function:=by
   unfold Env.blockKind
   rw [S.kind]; rfl
  rw [this]
  rfl
 rw [exec_Assign_Name_used _ _ _ _ hsw]
 refine wpAny_bind (wpAny_standAt (wpAny_bind ?_))
 refine wpAny_bind (wpAny_mono (wpAny_comprehension_free (use:=some (assign (.Name y py) C.env)) (Q:=fun _ s'=>wN W C g (iS ρ') .next s') rfl (hs _) hcl O.kind O.locs (nV (G:=G) ok hit hcap hz turn R S h1 h2 h3 ?_)) (fun _ s' hq=>wpAny_pure (wpAny_pure hq)) fun _ _ e=>e)
 intro D L s' g' hD hL hne x hacc hoD hoL hns
 obtain ⟨m,hn⟩:=hns
 obtain ⟨vs,k,hq⟩:=hacc; have e:=hq.1; have hd:=hq.2
 have y':Ext W s g s' ((D,listOf vs.toArray k)::g'):=⟨x.keep,x.old,fun p hp=>List.mem_cons_of_mem _ (x.sub p hp),fun p hp=>by
  rcases List.mem_cons.mp hp with rfl|hp
  ·exact ⟨e,S.base.wok.not_tb S.base.old hD⟩
  ·exact x.ok p hp,fun p hp=>by
  rcases List.mem_cons.mp hp with rfl|hp
  ·exact .inr hD
  ·exact x.new p hp,x.os,x.bare,x.tabs⟩
 have S':=S.step y'
 refine wpAny_assign_Name (S'.store hp (.list List.mem_cons_self (hd.mono fun p hp=>List.mem_cons_of_mem _ hp)) fun s'' S'' kp=>?_)
 have hLloc:C.env.locals≠L:=by
  obtain ⟨m',o,es,k',e',_⟩:=S.ns
  intro z; rw [z,hL] at e'; exact none_ e'
 have hn':s''.heap.Ns L m:=hn.at' fun o e=>kp L o e (Ne.symm hLloc) (by
  obtain ⟨o',es,j,e',hdat,_⟩:=hn
  rw [e] at e'; cases e'
  rw [hdat]; intro _ z; cases z)
 have hdict:∃o es j,s''.heap.get? L=some o/\o.data=.dict es j:=by
  obtain ⟨o,es,j,hq⟩:=hn'; have e':=hq.1; have hdat:=hq.2.1
  exact ⟨o,es,j,e',hdat⟩
 obtain ⟨oL,es,j,eL,dL⟩:=hdict
 refine ⟨m,hn',fun h' hsb=>⟨.next,ρ',_,⟨rfl,rfl⟩,S''.aside (tk:=s''.toks) (eZ S.base0 S.ext hL) ?_ hLloc ?_ ?_ hsb.extBut,y'.sub,trivial⟩⟩
 ·intro p hp
  rcases List.mem_cons.mp hp with rfl|hp
  ·exact hne
  ·exact hoL p hp
 ·rintro x c u _ ⟨o,e1,d1⟩ rfl
  rw [eL] at e1; cases e1; rw [dL] at d1; cases d1
 ·intro x k ds hm
  obtain ⟨_,⟨us,k',q2,_⟩,_⟩:=S''.vars x _ hm
  rw [eL] at q2; cases q2; rw [a6] at dL; cases dL
noncomputable def st22 (i:Nat):Stmt:=((dW (aT 22))[i]?).getD (.Pass ⟨0,0,0,0⟩)
noncomputable abbrev lw (sc ce k or ah be y ho x pa li to st cr ls sy wi th ap fi la fr en:Option Bd):aW:=
 [("script",sc),("cells",ce),("k",k),("order",or),("ahead",ah),("behind",be),("y",y),("hosts",ho),("x",x),("pairs",pa),("lies",li),("told",to),("strange",st),("crossed",cr),("lists",ls),("stays",sy),("within",wi),("three",th),("apart",ap),("first",fi),("last",la),("fronts",fr),("ends",en)]
theorem HD (hC:C.env.scope=aR (aT 22)) (G:Glb W) {zs:List Int} (hz:zs.length<=63) {rest:List Stmt}
  (hr:∀a c0 c1 k,cD W C n (lw (some (.val (aG zs))) (some (.own a [.int c0,.int c1])) k none none none none none none none none none none none none none none none none none none none none) rest P) :
  cD W C n (lw (some (.val (aG zs))) none none none none none none none none none none none none none none none none none none none none none none) (st22 0::st22 1::rest) P:=by
 have kr:C.env.kindOf "range" = some .globalImplicit:=aE hC (by kernel_rfl)
 have kl:C.env.kindOf "len" = some .globalImplicit:=aE hC (by kernel_rfl)
 refine iG (dZ (aA aH (aA aH aD))) (hp:=fun a=>⟨lw (some (.val (aG zs))) (some (.own a [.int 0,.int 3])) none none none none none none none none none none none none none none none none none none none none none,by exact aF 1 rfl rfl,?_⟩)
 revert W C n P zs rest a;refine no_implicit_lambda%(hK4 ?_);generalize (HK4 _).1=W,(HK4 _).2.1=C,(HK4 _).2.2.1=n,(HK4 _).2.2.2=P;intro hC G;refine no_implicit_lambda%(hK ?_);generalize HK _=zs;intro hz;refine no_implicit_lambda%(hK ?_);generalize HK _=rest;intro hr kr kl;refine no_implicit_lambda%(hK ?_);generalize HK _=a
 refine aP (P':=fun fl r=>fl=.next/\∃c0 c1 k,r=lw (some (.val (aG zs))) (some (.own a [.int c0,.int c1])) k none none none none none none none none none none none none none none none none none none none none)
  (dU (ds:=cG 0 1 zs.length) (bR G.range.1 G.range.2 kr (aA (bT G.len.1 G.len.2 (aA (aC (by exact aB 0 rfl)) aD) (lN (by rw [List.length_map]; lia)) kl) aD) (by rw [List.length_map]; exact fT) (cB (by decide) (by decide) (by lia) (by lia)) (by rw [vM (by lia)]; lia))
   (fun i r=>∃c0 c1 k,r=lw (some (.val (aG zs))) (some (.own a [.int c0,.int c1])) k none none none none none none none none none none none none none none none none none none none none) ⟨0,3,none,rfl⟩ (fun i hi r ⟨c0,c1,k,e⟩=>?_) fun r hr'=>⟨rfl,hr'⟩) (fun r ⟨_,c0,c1,k,e⟩=>?_) fun fl r hne ⟨e,_⟩=>absurd e hne
 ·subst e
  rw [bU] at hi
  rw [cZ,show (0:Int)+i*1=(i:Int) from by lia]
  refine ⟨lw (some (.val (aG zs))) (some (.own a [.int c0,.int c1])) (some (.val (.int i))) none none none none none none none none none none none none none none none none none none none none,aV (by exact aF 2 rfl rfl),?_⟩
  revert i c0 c1 k;refine no_implicit_lambda%(hK ?_);generalize HK _=i;intro hi hi;refine no_implicit_lambda%(hK3 ?_);generalize (HK3 _).1=c0,(HK3 _).2.1=c1,(HK3 _).2.2=k;intro _
  have es:∀ {p p' pos:Pos},Ev W C n (lw (some (.val (aG zs))) (some (.val (.list [.int c0,.int c1]))) (some (.val (.int i))) none none none none none none none none none none none none none none none none none none none none) (.Subscript (.Name "script" p) (.Name "k" p') pos) (.int (zs.getD i 0)):=
   a5 (aC (by exact aB 0 rfl)) (aC (by exact aB 2 rfl)) (bW hi (by lia))
  rcases Nat.mod_two_eq_zero_or_one i with h|h
  ·have e2:(i:Int).fmod 2=0:=by rw [Int.fmod_eq_emod_of_nonneg _ (by decide)]; lia
   refine aI (ρ':=lw (some (.val (aG zs))) (some (.own a [.int (c0+zs.getD i 0),.int c1])) (some (.val (.int i))) none none none none none none none none none none none none none none none none none none none none)
    (jI (k:=0) (by exact aB 1 rfl) (gD (x:="cells") (a:=a) (ρ':=lw (some (.val (aG zs))) (some (.val (.list [.int c0,.int c1]))) (some (.val (.int i))) none none none none none none none none none none none none none none none none none none none none) (by exact aB 1 rfl) (by exact aF 1 rfl rfl)
     (aJ (a5 (aC (by exact aB 1 rfl)) (dA (aJ (aC (by exact aB 2 rfl)) aH (lU (by decide))) (by rw [e2])) (dB (i:=0) (by decide) (by decide) rfl)) es rB) trivial) (dA (aJ (aC (by exact aB 2 rfl)) aH (lU (by decide))) (by rw [e2])) (by decide) (by show (0:Int)<2; decide) (by show 2<=_; decide) (by exact aF 1 rfl rfl)) (aQ ⟨_,_,_,rfl⟩)
  ·have e2:(i:Int).fmod 2=1:=by rw [Int.fmod_eq_emod_of_nonneg _ (by decide)]; lia
   refine aI (ρ':=lw (some (.val (aG zs))) (some (.own a [.int c0,.int (c1+zs.getD i 0)])) (some (.val (.int i))) none none none none none none none none none none none none none none none none none none none none)
    (jI (k:=1) (by exact aB 1 rfl) (gD (x:="cells") (a:=a) (ρ':=lw (some (.val (aG zs))) (some (.val (.list [.int c0,.int c1]))) (some (.val (.int i))) none none none none none none none none none none none none none none none none none none none none) (by exact aB 1 rfl) (by exact aF 1 rfl rfl)
     (aJ (a5 (aC (by exact aB 1 rfl)) (dA (aJ (aC (by exact aB 2 rfl)) aH (lU (by decide))) (by rw [e2])) (dB (i:=1) (by decide) (by decide) rfl)) es rB) trivial) (dA (aJ (aC (by exact aB 2 rfl)) aH (lU (by decide))) (by rw [e2])) (by decide) (by show (1:Int)<2; decide) (by show 2<=_; decide) (by exact aF 1 rfl rfl)) (aQ ⟨_,_,_,rfl⟩)
 ·subst e
  exact hr a c0 c1 k
end
section
variable {W:Wd} {C:Cx} {n:Nat} {ρ ρ' ρ'':aW} {P:Fl->aW->Prop}
theorem GI (hC:C.env.scope=aR (aT 22)) (G:Glb W) {fO fR:Addr} (NO:FnName W "_law_order" fO) (NR:FnName W "_law_row" fR) (DR:DefAt W fR (aT 16) ["number"]) {sc k:Option Bd} {a:Addr} {c0 c1:Int} {aL bL:List Int}
  (hO:Fn W (n+1) fO [.str (oN c0),.str (oN c1)] (.tuple [aG aL,aG bL])) {rest:List Stmt}
  (hr:∀or,cD W C (n+1) (lw sc (some (.own a [.int c0,.int c1])) k or (some (.val (aG aL))) (some (.val (aG bL))) none none none none none none none none none none none none none none none none none) rest P) :
  cD W C (n+1) (lw sc (some (.own a [.int c0,.int c1])) k none none none none none none none none none none none none none none none none none none none none) (st22 2::st22 3::st22 4::rest) P:=by
 have ko:C.env.kindOf "_law_order" = some .globalImplicit:=aE hC (by kernel_rfl)
 have kr:C.env.kindOf "_law_row" = some .globalImplicit:=aE hC (by kernel_rfl)
 have er0:∀ {p p1 p2 p3 q:Pos} {j:Nat},Ev W C (n+1) (lw sc (some (.own a [.int c0,.int c1])) k none none none none none none none none none none none none none none none none none none none none) (.Call (.Name "_law_row" p) [.Subscript (.Name "cells" p1) (.Constant (.int 0) j p2) p3] [] q) (.str (oN c0)):=
  gD (x:="cells") (a:=a) (ρ':=lw sc (some (.val (.list [.int c0,.int c1]))) k none none none none none none none none none none none none none none none none none none none none) (by exact aB 1 rfl) (by exact aF 1 rfl rfl) (bI NR (aA (a5 (aC (by exact aB 1 rfl)) aH (dB (i:=0) (by decide) (by decide) rfl)) aD) (vP DR G) kr) trivial
 have er1:∀ {p p1 p2 p3 q:Pos} {j:Nat},Ev W C (n+1) (lw sc (some (.own a [.int c0,.int c1])) k none none none none none none none none none none none none none none none none none none none none) (.Call (.Name "_law_row" p) [.Subscript (.Name "cells" p1) (.Constant (.int 1) j p2) p3] [] q) (.str (oN c1)):=
  gD (x:="cells") (a:=a) (ρ':=lw sc (some (.val (.list [.int c0,.int c1]))) k none none none none none none none none none none none none none none none none none none none none) (by exact aB 1 rfl) (by exact aF 1 rfl rfl) (bI NR (aA (a5 (aC (by exact aB 1 rfl)) aH (dB (i:=1) (by decide) (by decide) rfl)) aD) (vP DR G) kr) trivial
 refine aI (ρ':=lw sc (some (.own a [.int c0,.int c1])) k (some (.val (.tuple [aG aL,aG bL]))) none none none none none none none none none none none none none none none none none none none) (aY (bI NO (aA er0 (aA er1 aD)) hO ko) (by exact aF 3 rfl rfl)) ?_
 refine bX (b:=false) (aN (aC (by exact aB 3 rfl)) AZ (NX rfl)) rfl ?_
 exact aI (CC (ρ₁:=lw sc (some (.own a [.int c0,.int c1])) k (some (.val (.tuple [aG aL,aG bL]))) (some (.val (aG aL))) none none none none none none none none none none none none none none none none none none)
  (ρ':=lw sc (some (.own a [.int c0,.int c1])) k (some (.val (.tuple [aG aL,aG bL]))) (some (.val (aG aL))) (some (.val (aG bL))) none none none none none none none none none none none none none none none none none) (aC (by exact aB 3 rfl)) (by exact aF 4 rfl rfl) (by exact aF 5 rfl rfl)) (hr _)
noncomputable abbrev hostsOf (hostOf:Nat->List Str):List (List Str):=(List.range 5).map hostOf
noncomputable def aU:List (Nat×Nat):=(List.range 5).flatMap fun x=>(List.range 5).map fun y=>(x,y)
theorem gH {p:Nat×Nat} (h:p∈aU):p.1<5/\p.2<5:=by
 obtain ⟨x,hx,hp⟩:=List.mem_flatMap.mp h
 obtain ⟨y,hy,rfl⟩:=List.mem_map.mp hp
 exact ⟨List.mem_range.mp hx,List.mem_range.mp hy⟩
theorem F2 (hC:C.env.scope=aR (aT 22)) (G:Glb W) {fH:Addr} (NH:FnName W "_law_host" fH) {sc ce k or:Option Bd} {aL bL:List Int} {hostOf:Nat->List Str}
  (hH:∀y:Nat,y<5->Fn W n fH [aG aL,aG bL,.int y] (aO (hostOf y))) {rest:List Stmt}
  (hr:cD W C n (lw sc ce k or (some (.val (aG aL))) (some (.val (aG bL))) none (some (.val (cC (hostsOf hostOf)))) none none none none none none none none none none none none none none none) rest P) :
  cD W C n (lw sc ce k or (some (.val (aG aL))) (some (.val (aG bL))) none none none none none none none none none none none none none none none none none) (st22 5::rest) P:=by
 have kr:C.env.kindOf "range" = some .globalImplicit:=aE hC (by kernel_rfl)
 refine aI (pY (dA (d':=cC (hostsOf hostOf)) (dO (xs:=List.range 5) (emb:=fun (i:Nat)=>Dat.int i) (far:=[("ahead",aG aL),("behind",aG bL)]) (ρ₀:=[("y",none)]) (fun y=>some (aO (hostOf y))) (by kernel_rfl)
  (by rw [←dS]; exact bR G.range.1 G.range.2 kr (aA aH aD) fT (cB (by decide) (by decide) (by decide) (by decide)) (rfl)) (fun p hp=>?_) (by rw [sizeLine_eq]; decide) fun C' B y hy=>?_) ?_) (by exact aF 7 rfl rfl) (aE hC (by kernel_rfl))) hr
 ·rcases List.mem_cons.mp hp with rfl|hp
  ·exact .own (by exact aB 4 rfl) (aE hC (by kernel_rfl))
  ·rw [List.mem_singleton.mp hp]; exact .own (by exact aB 5 rfl) (aE hC (by kernel_rfl))
 ·have kh':C'.env.kindOf "_law_host" = some .globalImplicit:=B.kind _ _ (by kernel_rfl) (by decide)
  exact gK (aV .head) (bI NH (aA (bK (by rw [B.far]; exact .head)) (aA (bK (by rw [B.far]; exact .tail .head)) (aA (aC .head) aD))) (hH y (List.mem_range.mp hy)) kh')
 ·rw [bC]
  unfold hostsOf
  rw [cC,List.map_map]; rfl
theorem E6 (hC:C.env.scope=aR (aT 22)) (G:Glb W) {sc ce k or ah be y ho x:Option Bd} {rest:List Stmt}
  (hr:cD W C n (lw sc ce k or ah be y ho x (some (.val (.list (aU.map pairD)))) none none none none none none none none none none none none none) rest P) :
  cD W C n (lw sc ce k or ah be y ho x none none none none none none none none none none none none none none) (st22 6::rest) P:=by
 have kr:C.env.kindOf "range" = some .globalImplicit:=aE hC (by kernel_rfl)
 have hG:((List.range 5).flatMap fun x=>(List.range 5).flatMap fun y=>[pairD (x,y)])=aU.map pairD:=rfl
 refine aI (G7 (xs:=List.range 5) (emb:=fun (i:Nat)=>Dat.int i) (G:=fun x=>(List.range 5).flatMap fun y=>[pairD (x,y)]) (far:=[]) (ρ₀:=[("x",none),("y",none)]) (by kernel_rfl)
  (by rw [←dS]; exact bR G.range.1 G.range.2 kr (aA aH aD) fT (cB (by decide) (by decide) (by decide) (by decide)) (by decide)) (fun p hp=>nomatch hp) (by rw [sizeLine_eq]; decide) (fun C' B D it=>?_) (by rw [hG]; repeat constructor) (aE hC (by kernel_rfl))) hr
 have kr':C'.env.kindOf "range" = some .globalImplicit:=B.kind _ _ (by kernel_rfl) (by decide)
 refine ⟨_,zC ..,fun a ha=>⟨[("x",some (.val (.int a))),("y",none)],aV .head,qT rfl,?_⟩⟩
 refine BR (emb:=fun (i:Nat)=>Dat.int i) (by rw [←dS]; exact bR G.range.1 G.range.2 kr' (aA aH aD) fT (cB (by decide) (by decide) (by decide) (by decide)) (rfl)) (fun b hb=>⟨[("x",some (.val (.int a))),("y",some (.val (.int b)))],aV (.tail .head),qT rfl,?_⟩) (by repeat constructor)
 exact rW (b:=true) .nil (fun _=>bF (aA (aC (by exact aB 0 rfl)) (aA (aC (by exact aB 1 rfl)) aD))) (by repeat constructor)
theorem KZ {hostOf:Nat->List Str} {j:Nat} {v:Str} {p p1 p2 p3 p4 q:Pos} {kk:Nat} (hj:j<5) (jo:∀y,y<5->JoinOk "." (hostOf y)=true) (hh:Has ρ "hosts" (.val (cC (hostsOf hostOf)))) (hv:Has ρ v (.val (.int j))) (hd:autoParam ((v==("__debug__":Str))=false) Mine.aC._auto_1) (hl:autoParam ((p1.endLine==q.line)=true) Mine.dG._auto_1) :
  Ev W C n ρ (.Call (.Attribute (.Constant (.str ".") kk p) "join" p1) [.Subscript (.Name "hosts" p2) (.Name v p3) p4] [] q) (.str (Txt.join "." (hostOf j))):=
 dG aS (aA (a5 (aC hh) (aC hv hd) (dB (d:=aO (hostOf j)) (by lia) (by lia) (by rw [Int.toNat_natCast,List.getElem?_map,List.getElem?_map,List.getElem?_range hj]; rfl))) aD) (uN (jo _ hj)) (hline:=hl)
noncomputable def dD (told:Nat->Nat->Bool):List (Nat×Nat):=aU.filter fun p=>told p.1 p.2
theorem IC (hC:C.env.scope=aR (aT 22)) (G:Glb W) {fD:Addr} (ND:FnName W "domain_match" fD) {sc ce k or ah be:Option Bd} {hostOf:Nat->List Str} {told:Nat->Nat->Bool}
  (jo:∀y,y<5->JoinOk "." (hostOf y)=true) (jl:∀y,y<5->(Txt.join "." (hostOf y)).length<=100) (ul:∀y,y<5->(Txt.upper (Txt.join "." (hostOf y))).length<=100)
  (tell:∀x y,x<5->y<5->Fn W n fD [.str (("Z.":Str)++Txt.upper (Txt.join "." (hostOf x))),.str ((".":Str)++Txt.join "." (hostOf y))] (.bool (told x y))) {rest:List Stmt}
  (hr:∀x y to,cD W C n (lw sc ce k or ah be y (some (.val (cC (hostsOf hostOf)))) x (some (.val (.list (aU.map pairD)))) (some (.val (gG (dD told)))) to none none none none none none none none none none none) rest P) :
  cD W C n (lw sc ce k or ah be none (some (.val (cC (hostsOf hostOf)))) none (some (.val (.list (aU.map pairD)))) none none none none none none none none none none none none none) (st22 7::st22 8::rest) P:=by
 have kd:C.env.kindOf "domain_match" = some .globalImplicit:=aE hC (by kernel_rfl)
 revert W C n P fD sc ce k or ah be hostOf told rest;refine no_implicit_lambda%(hK4 ?_);generalize (HK4 _).1=W,(HK4 _).2.1=C,(HK4 _).2.2.1=n,(HK4 _).2.2.2=P;intro hC G;refine no_implicit_lambda%(hK ?_);generalize HK _=fD;intro ND;refine no_implicit_lambda%(hK8 ?_);generalize (HK8 _).1=sc,(HK8 _).2.1=ce,(HK8 _).2.2.1=k,(HK8 _).2.2.2.1=or,(HK8 _).2.2.2.2.1=ah,(HK8 _).2.2.2.2.2.1=be,(HK8 _).2.2.2.2.2.2.1=hostOf,(HK8 _).2.2.2.2.2.2.2=told;intro jo jl ul tell;refine no_implicit_lambda%(hK ?_);generalize HK _=rest;intro hr kd
 refine iG (dZ aD) (hp:=fun b=>⟨lw sc ce k or ah be none (some (.val (cC (hostsOf hostOf)))) none (some (.val (.list (aU.map pairD)))) (some (.own b [])) none none none none none none none none none none none none,by exact aF 10 rfl rfl,?_⟩)
 revert b;refine no_implicit_lambda%(hK ?_);generalize HK _=b
 refine aP (P':=fun fl r=>fl=.next/\∃x y to,r=lw sc ce k or ah be y (some (.val (cC (hostsOf hostOf)))) x (some (.val (.list (aU.map pairD)))) (some (.own b ((dD told).map pairD))) to none none none none none none none none none none none)
  (dU (ds:=aU.map pairD) (bG (aC (by exact aB 9 rfl))) (fun i r=>∃x y to,r=lw sc ce k or ah be y (some (.val (cC (hostsOf hostOf)))) x (some (.val (.list (aU.map pairD)))) (some (.own b (((aU.take i).filter fun p=>told p.1 p.2).map pairD))) to none none none none none none none none none none none)
   ⟨none,none,none,rfl⟩ (fun i hi r ⟨x,y,to,e⟩=>?_) fun r ⟨x,y,to,e⟩=>⟨rfl,x,y,to,?_⟩) (fun r ⟨_,x,y,to,e⟩=>?_) fun fl r hne ⟨e,_⟩=>absurd e hne
 ·subst e
  have hi':i<aU.length:=hi
  obtain ⟨hx,hy⟩:(aU[i]'hi').1<5/\(aU[i]'hi').2<5:=gH (List.getElem_mem hi')
  have hget:(aU.map pairD)[i]'hi=pairD (aU[i]'hi'):=List.getElem_map _
  have hstep:(aU.take (i+1)).filter (fun p=>told p.1 p.2)=(aU.take i).filter (fun p=>told p.1 p.2)++(if told aU[i].1 aU[i].2=true then [aU[i]] else []):=by
   rw [List.take_succ_eq_append_getElem hi',List.filter_append]
   congr 1
   rw [List.filter_cons]
   rfl
  have hlen:((aU.take i).filter fun p=>told p.1 p.2).length<=25:=by
   refine Nat.le_trans (List.length_filter_le _ _) ?_
   rw [List.length_take]
   have:aU.length=25:=rfl
   omega
  generalize hb:((aU.take i).filter fun p=>told p.1 p.2)=acc at hstep hlen
  rw [hget]
  clear hget
  generalize (aU[i]'hi')=pq at hstep hx hy
  obtain ⟨px,py⟩:=pq
  revert i x y to acc px py;refine no_implicit_lambda%(hK ?_);generalize HK _=i;intro hi;refine no_implicit_lambda%(hK3 ?_);generalize (HK3 _).1=x,(HK3 _).2.1=y,(HK3 _).2.2=to;intro _ hi';refine no_implicit_lambda%(hK ?_);generalize HK _=acc;intro hb hlen;refine no_implicit_lambda%(hK2 ?_);generalize (HK2 _).1=px,(HK2 _).2=py;intro hstep hx hy
  replace hx:px<5:=hx
  replace hy:py<5:=hy
  replace hstep:(aU.take (i+1)).filter (fun p=>told p.1 p.2)=acc++(if told px py=true then [(px,py)] else []):=hstep
  refine ⟨lw sc ce k or ah be (some (.val (.int py))) (some (.val (cC (hostsOf hostOf)))) (some (.val (.int px))) (some (.val (.list (aU.map pairD)))) (some (.own b (acc.map pairD))) to none none none none none none none none none none none,fG (ρ₁:=lw sc ce k or ah be y (some (.val (cC (hostsOf hostOf)))) (some (.val (.int px))) (some (.val (.list (aU.map pairD)))) (some (.own b (acc.map pairD))) to none none none none none none none none none none none) (by exact aF 8 rfl rfl) (by exact aF 6 rfl rfl),?_⟩
  refine aI (ρ':=lw sc ce k or ah be (some (.val (.int py))) (some (.val (cC (hostsOf hostOf)))) (some (.val (.int px))) (some (.val (.list (aU.map pairD)))) (some (.own b (acc.map pairD))) (some (.val (.bool (told px py)))) none none none none none none none none none none none)
   (aY (bI ND (aA (aJ aS (dJ (KZ hx jo (by exact aB 7 rfl) (by exact aB 8 rfl)) (t7 (lS (by have:=ul _ hx; lia)))) (cI ?_)) (aA (aJ aS (KZ hy jo (by exact aB 7 rfl) (by exact aB 6 rfl)) (cI ?_)) aD)) (tell _ _ hx hy) kd) (by exact aF 11 rfl rfl)) ?_
  ·have:=ul _ hx
   rw [sizeLine_eq]
   show 2+_<=_
   lia
  ·have:=jl _ hy
   rw [sizeLine_eq]
   show 1+_<=_
   lia
  refine bX (b:=false) (dV (cF (.and (aN (aC (by exact aB 11 rfl)) bO (d8 rfl)) fun _=>.and (aN (aC (by exact aB 11 rfl)) bO (d8 rfl)) fun _=>.nil)) (by cases told px py<;>rfl)) rfl ?_
  refine aP (P':=fun fl r=>fl=.next/\r=lw sc ce k or ah be (some (.val (.int py))) (some (.val (cC (hostsOf hostOf)))) (some (.val (.int px))) (some (.val (.list (aU.map pairD)))) (some (.own b (((aU.take (i+1)).filter fun p=>told p.1 p.2).map pairD))) (some (.val (.bool (told px py)))) none none none none none none none none none none none)
   (gJ (eM (aC (by exact aB 11 rfl)) fU) (fun hb=>?_) fun hb=>?_) (fun r ⟨_,e⟩=>aQ ⟨_,_,_,e⟩) fun fl r hne ⟨e,_⟩=>absurd e hne
  ·rw [hstep,if_pos hb,List.map_append]
   exact aI (lF (gC (by exact aB 10 rfl) (bF (aA (aC (by exact aB 8 rfl)) (aA (aC (by exact aB 6 rfl)) aD))) (by exact aF 10 rfl rfl) (by rw [List.length_map]; lia))) (aQ ⟨rfl,rfl⟩)
  ·rw [hstep,if_neg (by rw [hb]; decide),List.append_nil]
   exact aQ ⟨rfl,rfl⟩
 ·subst e
  rw [List.length_map,List.take_length]
  rfl
 ·subst e
  exact dK (x:="lies") (a:=b) (ρ':=lw sc ce k or ah be y (some (.val (cC (hostsOf hostOf)))) x (some (.val (.list (aU.map pairD)))) (some (.val (gG (dD told)))) to none none none none none none none none none none none) (by exact aB 10 rfl) (by exact aF 10 rfl rfl) (hr x y to)
end
section
variable {W:Wd} {C:Cx} {n:Nat} {ρ ρ' ρ'':aW} {P:Fl->aW->Prop}
theorem z0 (p:Nat×Nat) (x y:Nat):eJ (pairD p) (.tuple [.int x,.int y])=(p==(x,y)):=by
 rw [Bool.eq_iff_iff,mE]
 obtain ⟨a,b⟩:=p
 simp [pairD]
 lia
theorem nT {x y:Nat} (hx:x<5) (hy:y<5):(x,y)∈aU:=
 List.mem_flatMap.mpr ⟨x,List.mem_range.mpr hx,List.mem_map.mpr ⟨y,List.mem_range.mpr hy,rfl⟩⟩
theorem xA {told:Nat->Nat->Bool} {x y:Nat} (hx:x<5) (hy:y<5):(((dD told).map pairD).any fun q=>eJ q (.tuple [.int x,.int y]))=told x y:=by
 rw [List.any_map,Bool.eq_iff_iff,List.any_eq_true]
 constructor
 ·rintro ⟨p,hp,e⟩
  have e:eJ (pairD p) (.tuple [.int x,.int y])=true:=e
  rw [z0,beq_iff_eq] at e
  subst e
  exact (List.mem_filter.mp hp).2
 ·intro h
  refine ⟨(x,y),List.mem_filter.mpr ⟨nT hx hy,h⟩,?_⟩
  show eJ (pairD (x,y)) (.tuple [.int x,.int y])=true
  rw [z0,beq_iff_eq]
theorem tI (l:List (Nat×Nat)) (x y:Int):∀q∈l.map pairD,kin 8 q (.tuple [.int x,.int y])=true:=fun q hq=>by
 obtain ⟨p,hq⟩:=List.mem_map.mp hq; obtain rfl:=hq.2
 rfl
theorem tB:∀(l m:List (Nat×Nat)),g6 7 (l.map pairD) (m.map pairD)=true
 | [],m=>by cases m<;>rfl
 | a::l,[]=>rfl
 | a::l,b::m=>by
  exact (congrArg _ (tB l m)).trans (show (kin 7 (pairD a) (pairD b)&&true)=true from rfl)
theorem nO (k:Nat):∀(l m:List Str),g6 k (l.map .str) (m.map .str)=true
 | [],m=>by cases m<;>rfl
 | a::l,[]=>rfl
 | a::l,b::m=>by
  show (kin k (.str a) (.str b)&&g6 k (l.map .str) (m.map .str))=true
  rw [nO k l m]
  cases k<;>rfl
theorem n4 (l m:List Str):kin 8 (aO l) (aO m)=true:=nO 7 l m
noncomputable def mA (told:Nat->Nat->Bool):List (Nat×Nat):=aU.filter fun p=>decide ((p.1:Int)<p.2)&&(!told p.1 p.2 && !told p.2 p.1)
noncomputable def lT (aL:List Int) (x y:Nat):Bool:=Builtin.bitAnd (aL.getD x 0) (Builtin.bitNot (aL.getD y 0))!=0
noncomputable def iY (aL:List Int):List (Nat×Nat):=aU.filter fun p=>decide ((p.1:Int)<p.2)&&(lT aL p.1 p.2&&lT aL p.2 p.1)
theorem yQ (hC:C.env.scope=aR (aT 22)) {sc ce k or ah be y ho x to:Option Bd} {told:Nat->Nat->Bool} {rest:List Stmt}
  (hr:cD W C (n+1) (lw sc ce k or ah be y ho x (some (.val (.list (aU.map pairD)))) (some (.val (gG (dD told)))) to (some (.val (.list ((mA told).map pairD)))) none none none none none none none none none none) rest P) :
  cD W C (n+1) (lw sc ce k or ah be y ho x (some (.val (.list (aU.map pairD)))) (some (.val (gG (dD told)))) to none none none none none none none none none none none) (st22 9::rest) P:=by
 refine aI (jJ (xs:=aU) (emb:=pairD) (far:=[("lies",gG (dD told))]) (ρ₀:=[("x",none),("y",none)]) (fun p=>if (decide ((p.1:Int)<p.2)&&(!told p.1 p.2 && !told p.2 p.1))=true then some (pairD p) else none) (by kernel_rfl)
  (bG (aC (by exact aB 9 rfl))) (fun p hp=>?_) (by rw [sizeLine_eq]; decide) (fun C' B p hp=>?_) (by rw [a7]; repeat constructor) (aE hC (by kernel_rfl))) hr
 ·rw [List.mem_singleton.mp hp]; exact .own (by exact aB 10 rfl) (aE hC (by kernel_rfl))
 ·have hq:=gH hp; have h1:=hq.1; have h2:=hq.2
  refine eH (fG .head (.tail .head)) (dV (cF (.and (aN (aC (by exact aB 0 rfl)) (aC (by exact aB 1 rfl)) tG) fun _=>.and (aN (bF (aA (aC (by exact aB 0 rfl)) (aA (aC (by exact aB 1 rfl)) aD))) (bK (by rw [B.far]; exact .head)) (eF (tI _ _ _))) fun _ =>
   .and (aN (bF (aA (aC (by exact aB 1 rfl)) (aA (aC (by exact aB 0 rfl)) aD))) (bK (by rw [B.far]; exact .head)) (eF (tI _ _ _))) fun _=>.nil)) ?_) fun _=>bF (aA (aC (by exact aB 0 rfl)) (aA (aC (by exact aB 1 rfl)) aD))
  rw [xA h1 h2,xA h2 h1,show (BoolOp.And==BoolOp.And)=true from rfl,Bool.and_true]
theorem yK (hC:C.env.scope=aR (aT 22)) {sc ce k or be y ho x li to st:Option Bd} {aL:List Int} (ha:aL.length=5) {rest:List Stmt}
  (hr:cD W C (n+1) (lw sc ce k or (some (.val (aG aL))) be y ho x (some (.val (.list (aU.map pairD)))) li to st (some (.val (.list ((iY aL).map pairD)))) none none none none none none none none none) rest P) :
  cD W C (n+1) (lw sc ce k or (some (.val (aG aL))) be y ho x (some (.val (.list (aU.map pairD)))) li to st none none none none none none none none none none) (st22 10::rest) P:=by
 refine aI (jJ (xs:=aU) (emb:=pairD) (far:=[("ahead",aG aL)]) (ρ₀:=[("x",none),("y",none)]) (fun p=>if (decide ((p.1:Int)<p.2)&&(lT aL p.1 p.2&&lT aL p.2 p.1))=true then some (pairD p) else none) (by kernel_rfl)
  (bG (aC (by exact aB 9 rfl))) (fun p hp=>?_) (by rw [sizeLine_eq]; decide) (fun C' B p hp=>?_) (by rw [a7]; repeat constructor) (aE hC (by kernel_rfl))) hr
 ·rw [List.mem_singleton.mp hp]; exact .own (by exact aB 4 rfl) (aE hC (by kernel_rfl))
 ·have hq:=gH hp; have h1:=hq.1; have h2:=hq.2
  have cx:∀ {u v:Str} {a b:Nat} {p1 p2 p3 p4 p5 p6 p7 p8 p9 p10:Pos} {kk:Nat} (h1:a<5) (h2:b<5) (hu:Has [("x",some (.val (.int p.1))),("y",some (.val (.int p.2)))] u (.val (.int a))) (hv:Has [("x",some (.val (.int p.1))),("y",some (.val (.int p.2)))] v (.val (.int b))) (du:(u==("__debug__":Str))=false) (dv:(v==("__debug__":Str))=false),
    sH W C' (n+1) [("x",some (.val (.int p.1))),("y",some (.val (.int p.2)))] (.Compare (.BinOp (.Subscript (.Name "ahead" p1) (.Name u p2) p3) .BitAnd (.UnaryOp .Invert (.Subscript (.Name "ahead" p4) (.Name v p5) p6) p7) p8) [.NotEq] [.Constant (.int 0) kk p9] p10) (lT aL a b):=fun h1 h2 hu hv du dv =>
   aN (aJ (a5 (bK (by rw [B.far]; exact .head)) (aC hu du) (bW (by rw [ha]; exact h1) (by lia))) (fN (a5 (bK (by rw [B.far]; exact .head)) (aC hv dv) (bW (by rw [ha]; exact h2) (by lia))) DA) yT) aH (gW rfl)
  refine eH (fG .head (.tail .head)) (dV (cF (.and (aN (aC (by exact aB 0 rfl)) (aC (by exact aB 1 rfl)) tG) fun _=>.and (cx h1 h2 (by exact aB 0 rfl) (by exact aB 1 rfl) (by decide) (by decide)) fun _=>.and (cx h2 h1 (by exact aB 1 rfl) (by exact aB 0 rfl) (by decide) (rfl)) fun _=>.nil)) ?_) fun _=>bF (aA (aC (by exact aB 0 rfl)) (aA (aC (by exact aB 1 rfl)) aD))
  rw [show (BoolOp.And==BoolOp.And)=true from rfl,Bool.and_true]
theorem IM {sc ce k or ah be y ho x pa li to ls sy wi th ap fi la fr en:Option Bd} {st cr:List Dat} (h:st.isEmpty=cr.isEmpty) {rest:List Stmt}
  (hr:cD W C (n+1) (lw sc ce k or ah be y ho x pa li to (some (.val (.list st))) (some (.val (.list cr))) ls sy wi th ap fi la fr en) rest P) :
  cD W C (n+1) (lw sc ce k or ah be y ho x pa li to (some (.val (.list st))) (some (.val (.list cr))) ls sy wi th ap fi la fr en) (st22 11::rest) P:=
 bX (aN (kN (aC (by exact aB 12 rfl)) (cO aD) g9) (kN (aC (by exact aB 13 rfl)) (cO aD) g9) qH) (by rw [h]; cases cr.isEmpty<;>rfl) hr
theorem JI (hC:C.env.scope=aR (aT 22)) (G:Glb W) {sc ce k or ah be y x to st cr ls sy wi th ap fi la fr en:Option Bd} {hostOf:Nat->List Str} {told:Nat->Nat->Bool} (hl:∀y,y<5->1<=(hostOf y).length/\(hostOf y).length<=100)
  (hsf:∀x y,x<5->y<5->eJ (aO ((hostOf x).drop ((hostOf x).length-(hostOf y).length))) (aO (hostOf y))=told x y) {rest:List Stmt}
  (hr:cD W C (n+1) (lw sc ce k or ah be y (some (.val (cC (hostsOf hostOf)))) x (some (.val (.list (aU.map pairD)))) (some (.val (gG (dD told)))) to st cr ls sy wi th ap fi la fr en) rest P) :
  cD W C (n+1) (lw sc ce k or ah be y (some (.val (cC (hostsOf hostOf)))) x (some (.val (.list (aU.map pairD)))) (some (.val (gG (dD told)))) to st cr ls sy wi th ap fi la fr en) (st22 12::rest) P:=by
 refine bX (b:=!eJ (gG (dD told)) (gG (dD told))) (aN (aC (by exact aB 10 rfl)) (dA (d':=gG (dD told)) (dO (xs:=aU) (emb:=pairD) (far:=[("hosts",cC (hostsOf hostOf))]) (ρ₀:=[("x",none),("y",none)]) (fun p=>if told p.1 p.2=true then some (pairD p) else none) (by kernel_rfl)
  (bG (aC (by exact aB 9 rfl))) (fun p hp=>?_) (by rw [sizeLine_eq]; decide) fun C' B p hp=>?_) (by rw [a7]; rfl)) (gW (tB _ _))) (by rw [cM]; rfl) hr
 ·rw [List.mem_singleton.mp hp]; exact .own (by exact aB 7 rfl) (aE hC (by kernel_rfl))
 ·have hq:=gH hp; have h1:=hq.1; have h2:=hq.2
  have kl:C'.env.kindOf "len" = some .globalImplicit:=B.kind _ _ (by kernel_rfl) (by decide)
  have gh:∀ {u:Str} {a:Nat} {p1 p2 p3:Pos} (h1:a<5) (hu:Has [("x",some (.val (.int p.1))),("y",some (.val (.int p.2)))] u (.val (.int a))) (du:(u==("__debug__":Str))=false),
    Ev W C' (n+1) [("x",some (.val (.int p.1))),("y",some (.val (.int p.2)))] (.Subscript (.Name "hosts" p1) (.Name u p2) p3) (aO (hostOf a)):=fun h1 hu du =>
   a5 (bK (by rw [B.far]; exact .head)) (aC hu du) (dB (by lia) (by lia) (by rw [Int.toNat_natCast,List.getElem?_map,List.getElem?_map,List.getElem?_range h1]; rfl))
  have hx:=hl _ h1
  have hy:=hl _ h2
  refine eH (fG .head (.tail .head)) (dV (aN (dA (d':=aO ((hostOf p.1).drop ((hostOf p.1).length-(hostOf p.2).length))) (HN (k:=(hostOf p.2).length) (gh h1 (by exact aB 0 rfl) (rfl)) (dA (fN (bT G.len.1 G.len.2 (aA (gh h2 (by exact aB 1 rfl) (by decide)) aD) (lN (by rw [List.length_map]; lia)) kl) iU) (by rw [List.length_map])) hy.1 (by rw [List.length_map,sizeLine_eq]; lia)) ?_) (gh h2 (by exact aB 1 rfl) (by decide)) (gV (n4 _ _))) (hsf _ _ h1 h2)) fun _=>bF (aA (aC (by exact aB 0 rfl)) (aA (aC (by exact aB 1 rfl)) aD))
  rw [List.length_map,←List.map_drop]
theorem J4 {sc ce k or ah be y ho x pa li to st ls sy wi th ap fi la fr en:Option Bd} {cr:List Dat} {rest:List Stmt} (hP:∀ρ,P (.ret (.bool true)) ρ)
  (hr:cr.isEmpty=true->cD W C (n+1) (lw sc ce k or ah be y ho x pa li to st (some (.val (.list cr))) ls sy wi th ap fi la fr en) rest P) :
  cD W C (n+1) (lw sc ce k or ah be y ho x pa li to st (some (.val (.list cr))) ls sy wi th ap fi la fr en) (st22 13::rest) P:=
 cP (aN (aC (by exact aB 13 rfl)) (cO aD) n8) (fun _=>⟨bO,hP _⟩) fun h=>hr (by
  cases hc:cr.isEmpty with
  | true=>rfl
  | false=>rw [hc] at h; cases h)
end
section
variable {W:Wd} {C:Cx} {n:Nat} {ρ ρ' ρ'':aW} {P:Fl->aW->Prop}
noncomputable abbrev BG (ls:List (List Nat)):Dat:=.list (ls.map fun m=>.tuple (namesL m))
noncomputable def eC (ls:List (List Nat)) (y:Nat):List Nat:=(List.range ls.length).filter fun k=>(ls.getD k []).contains y
noncomputable abbrev oO (ls:List (List Nat)) (y:Nat):Dat:=.list (natsD (eC ls y))
noncomputable abbrev gS (ls:List (List Nat)):Dat:=.list ((List.range 5).map (oO ls))
theorem GR:∀a,a<5->∀b,b<5->(lP a).toList=(lP b).toList->a=b:=by decide +kernel
theorem CI:∀a,a<5->flagB.toList≠(lP a).toList:=by decide +kernel
theorem C0 {m:List Nat} {y:Nat} (hm:∀z∈m,z<5) (hy:y<5):((namesL m).any fun q=>eJ q (.bytes (lP y)))=m.contains y:=by
 have hf:eJ (.bytes flagB) (.bytes (lP y))=false:=by
  rw [PM,beq_eq_false_iff_ne]
  exact CI y hy
 unfold namesL
 rw [List.any_cons,List.any_append,hf,List.any_map,Bool.false_or]
 rw [show ([Dat.bytes flagB].any fun q=>eJ q (.bytes (lP y)))=false by rw [List.any_cons,hf]; rfl,Bool.or_false]
 rw [Bool.eq_iff_iff,List.any_eq_true,List.contains_iff_mem]
 constructor
 ·rintro ⟨z,hz,e⟩
  have e:((lP z).toList==(lP y).toList)=true:=e
  rw [beq_iff_eq] at e
  rw [←GR z (hm z hz) y hy e]
  exact hz
 ·intro h
  exact ⟨y,h,cM _⟩
theorem DG (m:List Nat) (y:Nat):∀q∈namesL m,kin 8 q (.bytes (lP y))=true:=fun q hq=>by
 unfold namesL at hq
 rcases List.mem_cons.mp hq with rfl|hq
 ·rfl
 ·rcases List.mem_append.mp hq with hq|hq
  ·obtain ⟨z,_,rfl⟩:=List.mem_map.mp hq; rfl
  ·rw [List.mem_singleton.mp hq]; rfl
theorem JJ (hC:C.env.scope=aR (aT 22)) {fRd:Addr} (NRd:FnName W "_law_read" fRd) {sc ce k or ah be y x pa to st cr:Option Bd} {hs:List (List Str)} {li:List (Nat×Nat)} {ls:List (List Nat)} (hR:Fn W n fRd [cC hs,gG li] (BG ls)) {rest:List Stmt}
  (hr:cD W C n (lw sc ce k or ah be y (some (.val (cC hs))) x pa (some (.val (gG li))) to st cr (some (.val (BG ls))) none none none none none none none none) rest P) :
  cD W C n (lw sc ce k or ah be y (some (.val (cC hs))) x pa (some (.val (gG li))) to st cr none none none none none none none none none) (st22 14::rest) P:=
 aI (aY (bI NRd (aA (aC (by exact aB 7 rfl)) (aA (aC (by exact aB 10 rfl)) aD)) hR (aE hC (by kernel_rfl))) (by exact aF 14 rfl rfl)) hr
theorem GC (hC:C.env.scope=aR (aT 22)) (G:Glb W) {sc ce k or ah be y ho x pa li to st cr:Option Bd} {ls:List (List Nat)} (hz:ls.length<=100) (hm:∀m∈ls,∀z∈m,z<5) {rest:List Stmt}
  (hr:cD W C (n+1) (lw sc ce k or ah be y ho x pa li to st cr (some (.val (BG ls))) (some (.val (gS ls))) none none none none none none none) rest P) :
  cD W C (n+1) (lw sc ce k or ah be y ho x pa li to st cr (some (.val (BG ls))) none none none none none none none none) (st22 15::rest) P:=by
 have kr:C.env.kindOf "range" = some .globalImplicit:=aE hC (by kernel_rfl)
 refine aI (pY (dA (d':=gS ls) (dO (xs:=List.range 5) (emb:=fun (i:Nat)=>Dat.int i) (far:=[("lists",BG ls)]) (ρ₀:=[("y",none)]) (fun y=>some (oO ls y)) (by kernel_rfl)
  (by rw [←dS]; exact bR G.range.1 G.range.2 kr (aA aH aD) fT (cB (by decide) (by decide) (by decide) (by decide)) (rfl)) (fun p hp=>?_) (by rw [sizeLine_eq]; decide) fun C' B y hy=>?_) ?_) (by exact aF 15 rfl rfl) (aE hC (by kernel_rfl))) hr
 ·rw [List.mem_singleton.mp hp]; exact .own (by exact aB 14 rfl) (aE hC (by kernel_rfl))
 ·have hy5:y<5:=List.mem_range.mp hy
  have kr':C'.env.kindOf "range" = some .globalImplicit:=B.kind _ _ (by kernel_rfl) (by decide)
  have kl':C'.env.kindOf "len" = some .globalImplicit:=B.kind _ _ (by kernel_rfl) (by decide)
  have ky:C'.env.kindOf "y" = some .cell:=B.kind _ _ (by kernel_rfl) (by decide)
  refine gK (ρ₁:=[("y",some (.val (.int y)))]) (aV .head) (dA (d':=oO ls y) (dO (xs:=List.range ls.length) (emb:=fun (i:Nat)=>Dat.int i) (far:=[("lists",BG ls),("y",.int y)]) (ρ₀:=[("k",none)]) (fun k=>if (ls.getD k []).contains y=true then some (.int k) else none) (by kernel_rfl)
   (by rw [←dS]; exact bR G.range.1 G.range.2 kr' (aA (bT G.len.1 G.len.2 (aA (bK (by rw [B.far]; exact .head)) aD) (lN (by rw [List.length_map]; lia)) kl') aD) (by rw [List.length_map]; exact fT) (cB (by decide) (by decide) (by lia) (by lia)) (by rw [vM (by lia)]; lia))
   (fun p hp=>?_) (by rw [List.length_range,sizeLine_eq]; lia) fun C'' B' k hk=>?_) ?_)
  ·rcases List.mem_cons.mp hp with rfl|hp
   ·exact .far (by rw [B.far]; exact .head)
   ·rw [List.mem_singleton.mp hp]; exact .own .head ky
  ·have hk':k<ls.length:=List.mem_range.mp hk
   have hgd:ls.getD k []=ls[k]:=by rw [List.getD_eq_getElem?_getD,List.getElem?_eq_getElem hk']; rfl
   refine eH (aV .head) (dV (aN (dJ (a5 aS (bK (by rw [B'.far]; exact .tail .head)) (cX hy5)) (kM (kY hy5).1 (kY hy5).2)) (a5 (bK (by rw [B'.far]; exact .head)) (aC .head) (dB (d:=.tuple (namesL ls[k])) (by lia) (by lia) (by rw [Int.toNat_natCast,List.getElem?_map,List.getElem?_eq_getElem hk']; rfl))) (x7 (DG _ y))) ?_) fun _=>aC .head
   rw [hgd]
   exact C0 (hm _ (List.getElem_mem hk')) hy5
  ·rw [a7]; rfl
 ·rw [bC]
theorem IZ {sc ce k or ah be y ho x pa li to st cr l wi th ap fi la fr en:Option Bd} {ls:List (List Nat)} (h:∀y,y<5->eC ls y≠[]) {rest:List Stmt}
  (hr:cD W C (n+1) (lw sc ce k or ah be y ho x pa li to st cr l (some (.val (gS ls))) wi th ap fi la fr en) rest P) :
  cD W C (n+1) (lw sc ce k or ah be y ho x pa li to st cr l (some (.val (gS ls))) wi th ap fi la fr en) (st22 16::rest) P:=by
 refine bX (aN (cO aD) (aC (by exact aB 15 rfl)) (qB fun q hq=>?_)) ?_ hr
 ·obtain ⟨y,_,rfl⟩:=List.mem_map.mp hq
  exact qF 7 _
 ·rw [List.any_eq_false]
  intro q hq
  obtain ⟨y,hy,rfl⟩:=List.mem_map.mp hq
  rw [IU,r8,natsD,List.isEmpty_map,List.isEmpty_iff]
  exact h y (List.mem_range.mp hy)
noncomputable def pF (l m:List Nat):Bool:=decide ((l.headD 0:Int)<m.headD 0)&&decide ((m.getLastD 0:Int)<l.getLastD 0)
noncomputable def pI (ls:List (List Nat)):List (Nat×Nat):=aU.filter fun p=>pF (eC ls p.1) (eC ls p.2)
theorem CQ {l:List Nat} (h:l≠[]):(natsD l)[(0:Int).toNat]? = some (.int (l.headD 0)):=by
 cases l with
 | nil=>exact absurd rfl h
 | cons a l=>rfl
theorem C3 {l:List Nat} (h:l≠[]):(natsD l)[((-1:Int)+(natsD l).length).toNat]? = some (.int (l.getLastD 0)):=by
 have h0:0<l.length:=List.length_pos_iff.mpr h
 have:((-1:Int)+(natsD l).length).toNat=l.length-1:=by
  unfold natsD
  rw [List.length_map]; exact RE _
 rw [this,natsD,List.getElem?_map,←List.getLast?_eq_getElem?,List.getLastD_eq_getLast?]
 cases hl:l.getLast? with
 | none=>rw [List.getLast?_eq_none_iff] at hl; exact absurd hl h
 | some a=>rfl
theorem B8 (hC:C.env.scope=aR (aT 22)) {sc ce k or ah be y ho x li to st cr l:Option Bd} {ls:List (List Nat)} (hz:ls.length<=100) (h:∀y,y<5->eC ls y≠[]) {rest:List Stmt}
  (hr:cD W C (n+1) (lw sc ce k or ah be y ho x (some (.val (.list (aU.map pairD)))) li to st cr l (some (.val (gS ls))) (some (.val (.list ((pI ls).map pairD)))) none none none none none none) rest P) :
  cD W C (n+1) (lw sc ce k or ah be y ho x (some (.val (.list (aU.map pairD)))) li to st cr l (some (.val (gS ls))) none none none none none none none) (st22 17::rest) P:=by
 refine aI (jJ (xs:=aU) (emb:=pairD) (far:=[("stays",gS ls)]) (ρ₀:=[("x",none),("y",none)]) (fun p=>if pF (eC ls p.1) (eC ls p.2)=true then some (pairD p) else none) (by kernel_rfl)
  (bG (aC (by exact aB 9 rfl))) (fun p hp=>?_) (by rw [sizeLine_eq]; decide) (fun C' B p hp=>?_) (by rw [a7]; repeat constructor) (aE hC (by kernel_rfl))) hr
 ·rw [List.mem_singleton.mp hp]; exact .own (by exact aB 15 rfl) (aE hC (by kernel_rfl))
 ·obtain ⟨h1,h2⟩:=gH hp
  have gh:∀ {u:Str} {a:Nat} {p1 p2 p3:Pos} (h1:a<5) (hu:Has [("x",some (.val (.int p.1))),("y",some (.val (.int p.2)))] u (.val (.int a))) (du:(u==("__debug__":Str))=false),
    Ev W C' (n+1) [("x",some (.val (.int p.1))),("y",some (.val (.int p.2)))] (.Subscript (.Name "stays" p1) (.Name u p2) p3) (oO ls a):=fun h1 hu du =>
   a5 (bK (by rw [B.far]; exact .head)) (aC hu du) (dB (by lia) (by lia) (by rw [Int.toNat_natCast,List.getElem?_map,List.getElem?_range h1]; rfl))
  have g0:∀ {u:Str} {a:Nat} {p1 p2 p3 p4 p5:Pos} {kk:Nat} (h1:a<5) (hu:Has [("x",some (.val (.int p.1))),("y",some (.val (.int p.2)))] u (.val (.int a))) (du:(u==("__debug__":Str))=false),
    Ev W C' (n+1) [("x",some (.val (.int p.1))),("y",some (.val (.int p.2)))] (.Subscript (.Subscript (.Name "stays" p1) (.Name u p2) p3) (.Constant (.int 0) kk p4) p5) (.int ((eC ls a).headD 0)):=fun h1 hu du =>
   a5 (gh h1 hu du) aH (dB (by decide) (by decide) (CQ (h _ h1)))
  have gl:∀ {u:Str} {a:Nat} {p1 p2 p3 p4 p5 p6:Pos} {kk:Nat} (h1:a<5) (hu:Has [("x",some (.val (.int p.1))),("y",some (.val (.int p.2)))] u (.val (.int a))) (du:(u==("__debug__":Str))=false),
    Ev W C' (n+1) [("x",some (.val (.int p.1))),("y",some (.val (.int p.2)))] (.Subscript (.Subscript (.Name "stays" p1) (.Name u p2) p3) (.UnaryOp .USub (.Constant (.int 1) kk p4) p5) p6) (.int ((eC ls a).getLastD 0)):=fun {u a _ _ _ _ _ _ _} h1 hu du =>
   a5 (gh h1 hu du) (fN aH iU) (kT (by decide) (by
    have:0<(eC ls a).length:=List.length_pos_iff.mpr (h _ h1)
    rw [natsD,List.length_map]; lia) (by decide) (C3 (h _ h1)))
  refine eH (fG .head (.tail .head)) (dV (cF (.and (aN (g0 h1 (by exact aB 0 rfl) (by decide)) (g0 h2 (by exact aB 1 rfl) (rfl)) tG) fun _=>.and (aN (gl h2 (by exact aB 1 rfl) (by decide)) (gl h1 (by exact aB 0 rfl) (by decide)) tG) fun _=>.nil)) ?_) fun _=>bF (aA (aC (by exact aB 0 rfl)) (aA (aC (by exact aB 1 rfl)) aD))
  rw [show (BoolOp.And==BoolOp.And)=true from rfl,Bool.and_true]
  rfl
end
section
variable {W:Wd} {C:Cx} {n:Nat} {ρ ρ' ρ'':aW} {P:Fl->aW->Prop}
noncomputable def wB (a:Int) (k:Nat):Int:=(a.fdiv (2^k)).fmod 2
theorem yY {e ek:Expr} {a:Int} {k:Nat} {p p1 p2 p3 p4:Pos} {j1 j2:Nat} (h:Ev W C n ρ e (.int a)) (hk:Ev W C n ρ ek (.int k)) (hk5:k<5) :
  Ev W C n ρ (.BinOp (.BinOp e .FloorDiv (.BinOp (.Constant (.int 2) j1 p) .Pow ek p1) p2) .Mod (.Constant (.int 2) j2 p3) p4) (.int (wB a k)):=by
 have hp0:(2:Int)^k≠0:=Int.pow_ne_zero (by decide)
 refine aJ (aJ h (aJ aH hk (t9 ?_ ?_)) (vK hp0 (mN ?_))) aH (lU (by decide))
 ·lia
 ·have:Builtin.Int.intBits 2=2:=rfl
  rw [this]; lia
 ·refine F8 (show k<5 by lia) ?_ ?_ ?_ ?_ ?_<;>decide
noncomputable def bB (aL bL:List Int) (x:Nat):List Nat:=(List.range 5).filter fun y=>y != x&&wB (Builtin.bitOr (aL.getD x 0) (bL.getD x 0)) y==0
noncomputable def mP (aL bL:List Int) (cL:List Int) (x y:Nat):List Nat:=(bB aL bL x).filter fun z=>wB (cL.getD y 0) z==1
noncomputable def j7 (aL bL:List Int) (x y:Nat):Bool:=!(mP aL bL aL x y).isEmpty && !(mP aL bL bL x y).isEmpty
noncomputable def gT (aL bL:List Int) (x:Nat) (l:List Nat):List (Nat×Nat):=(l.filter (j7 aL bL x)).map fun y=>(x,y)
noncomputable def dP (aL bL:List Int) (i:Nat):List (Nat×Nat):=(List.range i).flatMap fun x=>gT aL bL x (bB aL bL x)
theorem qX {aL bL:List Int} {x y:Nat} (h:y∈bB aL bL x):y<5:=List.mem_range.mp (List.mem_filter.mp h).1
theorem nP (aL bL:List Int) (x:Nat):(bB aL bL x).length<=5:=by
 have:=List.length_filter_le (fun y=>y != x&&wB (Builtin.bitOr (aL.getD x 0) (bL.getD x 0)) y==0) (List.range 5)
 simpa [bB] using this
section
variable {sc ce k or ho pa li to st cr l sy wi fr en:Option Bd} {aL bL:List Int} {t:Addr}
noncomputable abbrev tw (sc ce k or ho pa li to st cr l sy wi fr en:Option Bd) (aL bL:List Int) (y x th ap fi la:Option Bd):aW:=lw sc ce k or (some (.val (aG aL))) (some (.val (aG bL))) y ho x pa li to st cr l sy wi th ap fi la fr en
theorem I4 (hC:C.env.scope=aR (aT 22)) (ha:aL.length=5) (hb:bL.length=5) {x y:Nat} (hx:x<5) (hy:y<5) {acc:List (Nat×Nat)} (hz:acc.length<=900) {fi la:Option Bd} {body:List Stmt} (hbody:∃t1 i1 s1 t2 i2 o p p',st22 19=.For t1 i1 [s1,.For t2 i2 body o p] [] p') :
  cD W C (n+1) (tw sc ce k or ho pa li to st cr l sy wi fr en aL bL (some (.val (.int y))) (some (.val (.int x))) (some (.own t (acc.map pairD))) (some (.val (.list (natsD (bB aL bL x))))) fi la) body
   fun fl r=>fl=.next/\∃fi la,r=tw sc ce k or ho pa li to st cr l sy wi fr en aL bL (some (.val (.int y))) (some (.val (.int x))) (some (.own t ((acc++(if j7 aL bL x y=true then [(x,y)] else [])).map pairD))) (some (.val (.list (natsD (bB aL bL x))))) fi la:=by
 revert hC ha hb hx hy hz hbody;revert W C n sc ce k or ho pa li to st cr l sy wi fr en aL bL t x y acc fi la body;refine no_implicit_lambda%(hK10 ?_);generalize (HK10 _).1=W,(HK10 _).2.1=C,(HK10 _).2.2.1=n,(HK10 _).2.2.2.1=sc,(HK10 _).2.2.2.2.1=ce,(HK10 _).2.2.2.2.2.1=k,(HK10 _).2.2.2.2.2.2.1=or,(HK10 _).2.2.2.2.2.2.2.1=ho,(HK10 _).2.2.2.2.2.2.2.2.1=pa,(HK10 _).2.2.2.2.2.2.2.2.2=li;refine no_implicit_lambda%(hK10 ?_);generalize (HK10 _).1=to,(HK10 _).2.1=st,(HK10 _).2.2.1=cr,(HK10 _).2.2.2.1=l,(HK10 _).2.2.2.2.1=sy,(HK10 _).2.2.2.2.2.1=wi,(HK10 _).2.2.2.2.2.2.1=fr,(HK10 _).2.2.2.2.2.2.2.1=en,(HK10 _).2.2.2.2.2.2.2.2.1=aL,(HK10 _).2.2.2.2.2.2.2.2.2=bL;refine no_implicit_lambda%(hK7 ?_);generalize (HK7 _).1=t,(HK7 _).2.1=x,(HK7 _).2.2.1=y,(HK7 _).2.2.2.1=acc,(HK7 _).2.2.2.2.1=fi,(HK7 _).2.2.2.2.2.1=la,(HK7 _).2.2.2.2.2.2=body;intro hC ha hb hx hy hz hbody
 obtain ⟨t1,i1,s1,t2,i2,o,p,p',hbody⟩:=hbody
 injection hbody with _ _ hbody _ _
 injection hbody with _ hbody
 injection hbody with hbody _
 injection hbody with _ _ hbody _ _
 rw [←hbody]
 have hal:=nP aL bL x
 refine aI (ρ':=tw sc ce k or ho pa li to st cr l sy wi fr en aL bL (some (.val (.int y))) (some (.val (.int x))) (some (.own t (acc.map pairD))) (some (.val (.list (natsD (bB aL bL x))))) (some (.val (.list (natsD (mP aL bL aL x y))))) la)
  (jJ (xs:=bB aL bL x) (emb:=fun (i:Nat)=>Dat.int i) (far:=[("ahead",aG aL),("y",.int y)]) (ρ₀:=[("z",none)]) (fun z=>if (wB (aL.getD y 0) z==1)=true then some (.int z) else none) (by kernel_rfl)
  (bG (aC (by exact aB 18 rfl))) (fun p hp=>?_) (by rw [sizeLine_eq]; lia) (fun C' B z hz=>?_) (by rw [a7]; repeat constructor) (aE hC (by kernel_rfl))) ?_
 ·rcases List.mem_cons.mp hp with rfl|hp
  ·exact .own (by exact aB 4 rfl) (aE hC (by kernel_rfl))
  ·rw [List.mem_singleton.mp hp]; exact .own (by exact aB 6 rfl) (aE hC (by kernel_rfl))
 ·exact eH (aV .head) (aN (yY (a5 (bK (by rw [B.far]; exact .head)) (bK (by rw [B.far]; exact .tail .head)) (bW (by rw [ha]; exact hy) (by lia))) (aC .head) (qX hz)) aH (gV rfl)) fun _=>aC .head
 refine aI (ρ':=tw sc ce k or ho pa li to st cr l sy wi fr en aL bL (some (.val (.int y))) (some (.val (.int x))) (some (.own t (acc.map pairD))) (some (.val (.list (natsD (bB aL bL x))))) (some (.val (.list (natsD (mP aL bL aL x y))))) (some (.val (.list (natsD (mP aL bL bL x y))))))
  (jJ (xs:=bB aL bL x) (emb:=fun (i:Nat)=>Dat.int i) (far:=[("behind",aG bL),("y",.int y)]) (ρ₀:=[("z",none)]) (fun z=>if (wB (bL.getD y 0) z==1)=true then some (.int z) else none) (by kernel_rfl)
  (bG (aC (by exact aB 18 rfl))) (fun p hp=>?_) (by rw [sizeLine_eq]; lia) (fun C' B z hz=>?_) (by rw [a7]; repeat constructor) (aE hC (by kernel_rfl))) ?_
 ·rcases List.mem_cons.mp hp with rfl|hp
  ·exact .own (by exact aB 5 rfl) (aE hC (by kernel_rfl))
  ·rw [List.mem_singleton.mp hp]; exact .own (by exact aB 6 rfl) (aE hC (by kernel_rfl))
 ·exact eH (aV .head) (aN (yY (a5 (bK (by rw [B.far]; exact .head)) (bK (by rw [B.far]; exact .tail .head)) (bW (by rw [hb]; exact hy) (by lia))) (aC .head) (qX hz)) aH (gV rfl)) fun _=>aC .head
 refine aP (P':=fun fl r=>fl=.next/\r=tw sc ce k or ho pa li to st cr l sy wi fr en aL bL (some (.val (.int y))) (some (.val (.int x))) (some (.own t ((acc++(if j7 aL bL x y=true then [(x,y)] else [])).map pairD))) (some (.val (.list (natsD (bB aL bL x))))) (some (.val (.list (natsD (mP aL bL aL x y))))) (some (.val (.list (natsD (mP aL bL bL x y))))))
  (gJ (b:=j7 aL bL x y) (dV (cF (.and (aN (aC (by exact aB 19 rfl)) (cO aD) n8) fun _=>.and (aN (aC (by exact aB 20 rfl)) (cO aD) n8) fun _=>.nil)) ?_) (fun h=>?_) fun h=>?_) (fun r ⟨_,e⟩=>aQ ⟨rfl,_,_,e⟩) fun fl r hne ⟨e,_⟩=>absurd e hne
 ·simp only [show (BoolOp.And==BoolOp.And)=true from rfl,Bool.and_true,natsD,natsD,List.isEmpty_map,List.isEmpty_map]
  rfl
 ·rw [if_pos h,List.map_append]
  exact aI (lF (gC (by exact aB 17 rfl) (bF (aA (aC (by exact aB 8 rfl)) (aA (aC (by exact aB 6 rfl)) aD))) (by exact aF 17 rfl rfl) (by rw [List.length_map]; lia))) (aQ ⟨rfl,rfl⟩)
 ·rw [if_neg (by rw [h]; decide),List.append_nil]
  exact aQ ⟨rfl,rfl⟩
theorem r0 (aL bL:List Int) (x:Nat) (l:List Nat):(gT aL bL x l).length<=l.length:=by
 unfold gT
 rw [List.length_map]
 exact List.length_filter_le _ _
theorem vZ (aL bL:List Int) (x:Nat) (l:List Nat) (y:Nat):gT aL bL x (l++[y])=gT aL bL x l++(if j7 aL bL x y=true then [(x,y)] else []):=by
 unfold gT
 rw [List.filter_append,List.map_append]
 congr 1
 rw [List.filter_cons]
 split<;>rfl
theorem JK (hC:C.env.scope=aR (aT 22)) (G:Glb W) (ha:aL.length=5) (hb:bL.length=5) {x:Nat} (hx:x<5) {acc:List (Nat×Nat)} (hz:acc.length<=800) {y ap fi la:Option Bd} {body:List Stmt} (hbody:∃t1 i1 p',st22 19=.For t1 i1 body [] p') :
  cD W C (n+1) (tw sc ce k or ho pa li to st cr l sy wi fr en aL bL y (some (.val (.int x))) (some (.own t (acc.map pairD))) ap fi la) body
   fun fl r=>fl=.next/\∃y ap fi la,r=tw sc ce k or ho pa li to st cr l sy wi fr en aL bL y (some (.val (.int x))) (some (.own t ((acc++gT aL bL x (bB aL bL x)).map pairD))) ap fi la:=by
 revert hC G ha hb hx hz hbody;revert W C n sc ce k or ho pa li to st cr l sy wi fr en aL bL t x acc y ap fi la body;refine no_implicit_lambda%(hK10 ?_);generalize (HK10 _).1=W,(HK10 _).2.1=C,(HK10 _).2.2.1=n,(HK10 _).2.2.2.1=sc,(HK10 _).2.2.2.2.1=ce,(HK10 _).2.2.2.2.2.1=k,(HK10 _).2.2.2.2.2.2.1=or,(HK10 _).2.2.2.2.2.2.2.1=ho,(HK10 _).2.2.2.2.2.2.2.2.1=pa,(HK10 _).2.2.2.2.2.2.2.2.2=li;refine no_implicit_lambda%(hK10 ?_);generalize (HK10 _).1=to,(HK10 _).2.1=st,(HK10 _).2.2.1=cr,(HK10 _).2.2.2.1=l,(HK10 _).2.2.2.2.1=sy,(HK10 _).2.2.2.2.2.1=wi,(HK10 _).2.2.2.2.2.2.1=fr,(HK10 _).2.2.2.2.2.2.2.1=en,(HK10 _).2.2.2.2.2.2.2.2.1=aL,(HK10 _).2.2.2.2.2.2.2.2.2=bL;refine no_implicit_lambda%(hK8 ?_);generalize (HK8 _).1=t,(HK8 _).2.1=x,(HK8 _).2.2.1=acc,(HK8 _).2.2.2.1=y,(HK8 _).2.2.2.2.1=ap,(HK8 _).2.2.2.2.2.1=fi,(HK8 _).2.2.2.2.2.2.1=la,(HK8 _).2.2.2.2.2.2.2=body;intro hC G ha hb hx hz hbody
 have kr:C.env.kindOf "range" = some .globalImplicit:=aE hC (by kernel_rfl)
 obtain ⟨t1,i1,p',hbody⟩:=hbody
 have hbody':=hbody
 injection hbody with _ _ hbody _ _
 rw [←hbody]
 have hal:=nP aL bL x
 refine aI (ρ':=tw sc ce k or ho pa li to st cr l sy wi fr en aL bL y (some (.val (.int x))) (some (.own t (acc.map pairD))) (some (.val (.list (natsD (bB aL bL x))))) fi la)
  (jJ (xs:=List.range 5) (emb:=fun (i:Nat)=>Dat.int i) (far:=[("ahead",aG aL),("behind",aG bL),("x",.int x)]) (ρ₀:=[("y",none)]) (fun y=>if (y != x&&wB (Builtin.bitOr (aL.getD x 0) (bL.getD x 0)) y==0)=true then some (.int y) else none) (by kernel_rfl)
  (by rw [←dS]; exact bR G.range.1 G.range.2 kr (aA aH aD) fT (cB (by decide) (by decide) (by decide) (by decide)) (by decide)) (fun p hp=>?_) (by rw [sizeLine_eq]; decide) (fun C' B z hz=>?_) (by rw [a7]; repeat constructor) (aE hC (by kernel_rfl))) ?_
 ·rcases List.mem_cons.mp hp with rfl|hp
  ·exact .own (by exact aB 4 rfl) (aE hC (by kernel_rfl))
  ·rcases List.mem_cons.mp hp with rfl|hp
   ·exact .own (by exact aB 5 rfl) (aE hC (by kernel_rfl))
   ·rw [List.mem_singleton.mp hp]; exact .own (by exact aB 8 rfl) (aE hC (by kernel_rfl))
 ·refine eH (aV .head) (dV (cF (.and (aN (aC .head) (bK (by rw [B.far]; exact .tail (.tail .head))) (gW rfl)) fun _=>.and (aN (yY (aJ (a5 (bK (by rw [B.far]; exact .head)) (bK (by rw [B.far]; exact .tail (.tail .head))) (bW (by rw [ha]; exact hx) (by lia))) (a5 (bK (by rw [B.far]; exact .tail .head)) (bK (by rw [B.far]; exact .tail (.tail .head))) (bW (by rw [hb]; exact hx) (by lia))) ET) (aC .head) (List.mem_range.mp hz)) aH (gV rfl)) fun _=>.nil)) ?_) fun _=>aC .head
  rw [show (BoolOp.And==BoolOp.And)=true from rfl,Bool.and_true]
  congr 1
  rw [sC]
  by_cases h:z=x
  ·subst h; simp
  ·have h1:((z:Int)==x)=false:=by simpa using fun e=>h (by lia)
   rw [h1]
   simp [h]
 refine aP (P':=fun fl r=>fl=.next/\∃y fi la,r=tw sc ce k or ho pa li to st cr l sy wi fr en aL bL y (some (.val (.int x))) (some (.own t ((acc++gT aL bL x (bB aL bL x)).map pairD))) (some (.val (.list (natsD (bB aL bL x))))) fi la)
  (dU (ds:=natsD (bB aL bL x)) (bG (aC (by exact aB 18 rfl))) (fun i r=>∃y fi la,r=tw sc ce k or ho pa li to st cr l sy wi fr en aL bL y (some (.val (.int x))) (some (.own t ((acc++gT aL bL x ((bB aL bL x).take i)).map pairD))) (some (.val (.list (natsD (bB aL bL x))))) fi la)
   ⟨y,fi,la,by rw [List.take_zero]; simp [gT]⟩ (fun i hi r ⟨y,fi,la,e⟩=>?_) fun r ⟨y,fi,la,e⟩=>⟨rfl,y,fi,la,?_⟩) (fun r ⟨_,y,fi,la,e⟩=>aQ ⟨rfl,_,_,_,_,e⟩) fun fl r hne ⟨e,_⟩=>absurd e hne
 ·subst e
  have hi':i<(bB aL bL x).length:=by rw [natsD,List.length_map] at hi; exact hi
  have hget:(natsD (bB aL bL x))[i]'hi=.int ((bB aL bL x)[i]'hi':Nat):=List.getElem_map _
  have hmem:(bB aL bL x)[i]'hi'∈bB aL bL x:=List.getElem_mem hi'
  have hstep:(bB aL bL x).take (i+1)=(bB aL bL x).take i++[(bB aL bL x)[i]'hi']:=List.take_succ_eq_append_getElem hi'
  have hxl:=r0 aL bL x ((bB aL bL x).take i)
  rw [List.length_take] at hxl
  refine ⟨tw sc ce k or ho pa li to st cr l sy wi fr en aL bL (some (.val (.int ((bB aL bL x)[i]'hi':Nat)))) (some (.val (.int x))) (some (.own t ((acc++gT aL bL x ((bB aL bL x).take i)).map pairD))) (some (.val (.list (natsD (bB aL bL x))))) fi la,by rw [hget]; exact aV (by exact aF 6 rfl rfl),?_⟩
  refine fS (I4 hC ha hb hx (qX hmem) (by rw [List.length_append]; exact Nat.le_trans (Nat.add_le_add hz (Nat.le_trans hxl (Nat.le_trans (Nat.min_le_right _ _) hal))) (by decide)) ⟨_,_,_,_,_,_,_,_,rfl⟩) fun fl r hq=>?_
  obtain ⟨e,fi,la,e'⟩:=hq
  subst e
  rw [List.append_assoc,←vZ,←hstep] at e'
  exact ⟨_,fi,la,e'⟩
 ·subst e
  simp only [natsD,List.length_map,List.take_length]
theorem E9 (hC:C.env.scope=aR (aT 22)) (G:Glb W) (ha:aL.length=5) (hb:bL.length=5) {y x:Option Bd} {rest:List Stmt}
  (hr:∀y x ap fi la,cD W C (n+1) (tw sc ce k or ho pa li to st cr l sy wi none none aL bL y x (some (.val (.list ((dP aL bL 5).map pairD)))) ap fi la) rest P) :
  cD W C (n+1) (tw sc ce k or ho pa li to st cr l sy wi none none aL bL y x none none none none) (st22 18::st22 19::rest) P:=by
 revert hC G ha hb hr;revert W C n P sc ce k or ho pa li to st cr l sy wi aL bL y x rest;refine no_implicit_lambda%(hK10 ?_);generalize (HK10 _).1=W,(HK10 _).2.1=C,(HK10 _).2.2.1=n,(HK10 _).2.2.2.1=P,(HK10 _).2.2.2.2.1=sc,(HK10 _).2.2.2.2.2.1=ce,(HK10 _).2.2.2.2.2.2.1=k,(HK10 _).2.2.2.2.2.2.2.1=or,(HK10 _).2.2.2.2.2.2.2.2.1=ho,(HK10 _).2.2.2.2.2.2.2.2.2=pa;refine no_implicit_lambda%(hK10 ?_);generalize (HK10 _).1=li,(HK10 _).2.1=to,(HK10 _).2.2.1=st,(HK10 _).2.2.2.1=cr,(HK10 _).2.2.2.2.1=l,(HK10 _).2.2.2.2.2.1=sy,(HK10 _).2.2.2.2.2.2.1=wi,(HK10 _).2.2.2.2.2.2.2.1=aL,(HK10 _).2.2.2.2.2.2.2.2.1=bL,(HK10 _).2.2.2.2.2.2.2.2.2=y;refine no_implicit_lambda%(hK2 ?_);generalize (HK2 _).1=x,(HK2 _).2=rest;intro hC G ha hb hr
 have kr:C.env.kindOf "range" = some .globalImplicit:=aE hC (by kernel_rfl)
 refine iG (dZ aD) (hp:=fun t=>⟨tw sc ce k or ho pa li to st cr l sy wi none none aL bL y x (some (.own t [])) none none none,by exact aF 17 rfl rfl,?_⟩)
 revert t;refine no_implicit_lambda%(hK ?_);generalize HK _=t
 refine aP (P':=fun fl r=>fl=.next/\∃y x ap fi la,r=tw sc ce k or ho pa li to st cr l sy wi none none aL bL y x (some (.own t ((dP aL bL 5).map pairD))) ap fi la)
  (dU (ds:=cG 0 1 5) (bR G.range.1 G.range.2 kr (aA aH aD) fT (cB (by decide) (by decide) (by decide) (by decide)) (by decide)) (fun i r=>∃y x ap fi la,r=tw sc ce k or ho pa li to st cr l sy wi none none aL bL y x (some (.own t ((dP aL bL i).map pairD))) ap fi la)
   ⟨y,x,none,none,none,rfl⟩ (fun i hi r ⟨y,x,ap,fi,la,e⟩=>?_) fun r ⟨y,x,ap,fi,la,e⟩=>⟨rfl,y,x,ap,fi,la,?_⟩) (fun r ⟨_,y,x,ap,fi,la,e⟩=>?_) fun fl r hne ⟨e,_⟩=>absurd e hne
 ·subst e
  rw [bU] at hi
  rw [cZ,show (0:Int)+i*1=(i:Int) from by lia]
  have hlen:∀i,i<=5->(dP aL bL i).length<=5*i:=by
   intro i hi
   induction i with
   | zero=>exact Nat.le_refl _
   | succ i ih =>
    have h1:=ih (by lia)
    have h2:=r0 aL bL i (bB aL bL i)
    have h3:=nP aL bL i
    unfold dP at h1 ⊢
    simp only [List.range_succ,List.flatMap_append,List.length_append]
    simp only [List.flatMap_cons,List.flatMap_nil,List.append_nil]
    lia
  have hli:=hlen i (by lia)
  refine ⟨tw sc ce k or ho pa li to st cr l sy wi none none aL bL y (some (.val (.int i))) (some (.own t ((dP aL bL i).map pairD))) ap fi la,aV (by exact aF 8 rfl rfl),?_⟩
  refine fS (JK hC G ha hb hi (by lia) ⟨_,_,_,rfl⟩) fun fl r hq=>?_
  obtain ⟨e,y,ap,fi,la,e'⟩:=hq
  subst e
  have hst:dP aL bL (i+1)=dP aL bL i++gT aL bL i (bB aL bL i):=by
   unfold dP
   rw [List.range_succ,List.flatMap_append]
   simp only [List.flatMap_cons,List.flatMap_nil,List.append_nil]
  rw [←hst] at e'
  exact ⟨y,_,ap,fi,la,e'⟩
 ·rw [bU] at e
  exact e
 ·subst e
  exact dK (x:="three") (a:=t) (ρ':=tw sc ce k or ho pa li to st cr l sy wi none none aL bL y x (some (.val (.list ((dP aL bL 5).map pairD)))) ap fi la) (by exact aB 17 rfl) (by exact aF 17 rfl rfl) (hr _ _ _ _ _)
end
theorem JH {sc ce k or ah be y ho x pa li to st cr ls sy ap fi la fr en:Option Bd} {wi th:List Dat} (h:wi.isEmpty=th.isEmpty) {rest:List Stmt}
  (hr:cD W C (n+1) (lw sc ce k or ah be y ho x pa li to st cr ls sy (some (.val (.list wi))) (some (.val (.list th))) ap fi la fr en) rest P) :
  cD W C (n+1) (lw sc ce k or ah be y ho x pa li to st cr ls sy (some (.val (.list wi))) (some (.val (.list th))) ap fi la fr en) (st22 20::rest) P:=
 bX (aN (kN (aC (by exact aB 16 rfl)) (cO aD) g9) (kN (aC (by exact aB 17 rfl)) (cO aD) g9) qH) (by rw [h]; cases th.isEmpty<;>rfl) hr
end
section
variable {W:Wd} {C:Cx} {n:Nat} {ρ ρ' ρ'':aW} {P:Fl->aW->Prop}
theorem pT {g:Gh}:∀ {vs:List Value} {ds:List Dat},vs.length=ds.length->(∀(i:Nat) v d,vs[i]? = some v->ds[i]? = some d->DatIn g v d)->DatAll g vs ds
 | [],[],_,_=>.nil
 | [],_::_,h,_=>by simp at h
 | _::_,[],h,_=>by simp at h
 | v::vs,d::ds,h,hh=>.cons (hh 0 v d rfl rfl) (pT (by simpa using h) fun i v d h1 h2=>hh (i+1) v d (h1) (h2))
theorem t6 {p p2 pos pos2:Pos} {args:List Expr} {ds:List Dat} {a b c:Int} {k:Nat} (G:Glb W) (hkl:C.env.kindOf "list" = some .globalImplicit) (hk:C.env.kindOf "range" = some .globalImplicit) (ha:w6 W C n ρ args ds) (h:l6 W ds a b c)
  (hs:Builtin.Range.small a b c=true) (hz:Builtin.Range.rangeSize a b c=(k:Int)) (hk24:k<=1000)
  (he:autoParam (∀env pos,∃t ts,backTo pos (starEach args env)=(false,t)::ts) Mine.OC._auto_1)
  (hp:autoParam (∀env pos,(backTo pos (starEach args env)).any (·.1)=false) Mine.eM._auto_1) :
  Ev W C n ρ (.Call (.Name "list" p) [.Call (.Name "range" p2) args [] pos2] [] pos) (.list (cG a c k)):=fun A s g E R S=>by
 revert G hkl hk ha h hs hz hk24 he hp R S;revert W C n ρ p p2 pos pos2 args ds a b c k A s g E;refine no_implicit_lambda%(hK10 ?_);generalize (HK10 _).1=W,(HK10 _).2.1=C,(HK10 _).2.2.1=n,(HK10 _).2.2.2.1=ρ,(HK10 _).2.2.2.2.1=p,(HK10 _).2.2.2.2.2.1=p2,(HK10 _).2.2.2.2.2.2.1=pos,(HK10 _).2.2.2.2.2.2.2.1=pos2,(HK10 _).2.2.2.2.2.2.2.2.1=args,(HK10 _).2.2.2.2.2.2.2.2.2=ds;refine no_implicit_lambda%(hK8 ?_);generalize (HK8 _).1=a,(HK8 _).2.1=b,(HK8 _).2.2.1=c,(HK8 _).2.2.2.1=k,(HK8 _).2.2.2.2.1=A,(HK8 _).2.2.2.2.2.1=s,(HK8 _).2.2.2.2.2.2.1=g,(HK8 _).2.2.2.2.2.2.2=E;intro G hkl hk ha h hs hz hk24 he hp R S
 refine wpAny_Call_NameR (cY S G.list.1 G.list.2 hkl (rfl) ?_)
 have q:wpAny (model W.prog W.w) A (spliced (backTo pos (starEach [.Call (.Name "range" p2) args [] pos2] C.env))) (fun vs s'=>∃h' tk r t u v,vs=[.ref r]/\s'={ s' with heap:=h',toks:=tk }/\(∃g₁,Ext W s g s' g₁)/\IsRange s'.heap r a b c t u v) E s:=by
  rw [show starEach [.Call (.Name "range" p2) args [] pos2] C.env=[(false,eval (.Call (.Name "range" p2) args [] pos2) C.env)] from rfl]
  refine spliced_cons (wpAny_mono (?_:wpAny (model W.prog W.w) A (eval (.Call (.Name "range" p2) args [] pos2) C.env) (fun v s'=>∃r t u w',v=.ref r/\(∃g₁,Ext W s g s' g₁)/\IsRange s'.heap r a b c t u w') E s) (fun v s₁ ⟨r,t,u,w',e,hx,hr⟩=>spliced_nil ⟨s₁.heap,s₁.toks,r,t,u,w',by rw [e],rfl,hx,hr⟩) fun _ _ e=>e)
  refine wpAny_Call_NameR (cY S G.range.1 G.range.2 hk (rfl) ?_)
  have hp':=hp C.env pos2
  obtain ⟨t,ts,ht⟩:=he C.env pos2
  have q:=ha A s g E pos2 R S
  rw [ht] at q hp' ⊢
  refine PySem.callWith_type hp' (evalArgs_plain (wpAny_mono q (fun vs s₁ hq=>?_) fun _ _ e=>e))
  obtain ⟨g₁,x₁,hM⟩:=hq
  exact h A s₁ g₁ E vs _ hM fun h' tk r t u v hk' hr=>⟨r,t,u,v,rfl,⟨g₁,x₁.trans (Ext.of_keeps (tk:=tk) (S.step x₁).gok hk')⟩,hr⟩
 refine PySem.callWith_type rfl (evalArgs_plain (wpAny_mono q (fun vs s₁ hq=>?_) fun _ _ e=>e))
 obtain ⟨h',tk,r,t,u,v,e,_,⟨g₁,x₁⟩,hr⟩:=hq
 subst e
 refine call_list_range R.handled hr hs hz (by lia) fun h' tk acc' c' hk' hS' hacc=>?_
 have B₁:=(S.step x₁).base
 have x₂:Ext W s₁ g₁ { s₁ with heap:=h',toks:=tk } ((s₁.heap.objs.size,{ cls:=.type "list",dict:=none,data:=.seq acc' c',slots:=#[] })::g₁):=Ext.of_new (tk:=tk) [(s₁.heap.objs.size,{ cls:=.type "list",dict:=none,data:=.seq acc' c',slots:=#[] })] B₁ hk' fun p hp=>by
  rw [List.mem_singleton.mp hp]
  exact ⟨hS',get?_size _⟩
 refine ⟨_,x₁.trans x₂,?_⟩
 have:acc'=acc'.toList.toArray:=by simp
 rw [this] at x₂ ⊢
 refine .list List.mem_cons_self (pT (by rw [bU,Array.length_toList,hacc.1]) fun i v d h1 h2=>?_)
 obtain ⟨t,e⟩:=hacc.2 i v (by rw [←Array.getElem?_toList]; exact h1)
 subst e
 have hi:i<(cG a c k).length:=(List.getElem?_eq_some_iff.mp h2).1
 have h2':=(List.getElem?_eq_some_iff.mp h2).2
 rw [cZ] at h2'
 subst h2'
 exact .int _ _
theorem I7 (hC:C.env.scope=aR (aT 22)) (G:Glb W) {sc ce k or ah be y ho x pa li to st cr sy wi th ap fi la fr:Option Bd} {ls:List (List Nat)} {enL:List Int} (h:ls.length=enL.length) (hz:ls.length<=100) {rest:List Stmt}
  (hr:cD W C (n+1) (lw sc ce k or ah be y ho x pa li to st cr (some (.val (BG ls))) sy wi th ap fi la fr (some (.val (aG enL)))) rest P) :
  cD W C (n+1) (lw sc ce k or ah be y ho x pa li to st cr (some (.val (BG ls))) sy wi th ap fi la fr (some (.val (aG enL)))) (st22 23::rest) P:=by
 have kl:C.env.kindOf "len" = some .globalImplicit:=aE hC (by kernel_rfl)
 refine bX (aN (bT G.len.1 G.len.2 (aA (aC (by exact aB 14 rfl)) aD) (lN (by rw [List.length_map]; lia)) kl) (bT G.len.1 G.len.2 (aA (aC (by exact aB 22 rfl)) aD) (lN (by rw [List.length_map]; lia)) kl) (gW rfl)) ?_ hr
 rw [List.length_map,List.length_map,h,cM]
 rfl
theorem CV (k:Nat):∀l m:List Nat,kin (k+1) (.list (natsD l)) (.list (natsD m))=true:=by
 have:∀l m:List Nat,g6 k (natsD l) (natsD m)=true:=by
  intro l
  induction l with
  | nil=>intro m; cases m<;>rfl
  | cons a l ih =>
   intro m
   cases m with
   | nil=>rfl
   | cons b m =>
    show (kin k (.int a) (.int b)&&g6 k (natsD l) (natsD m))=true
    rw [ih m]
    cases k<;>rfl
 exact this
structure PlaceOf (l:List Int) (a:Int) (j:Nat):Prop where
 at_:l[j]? = some a
 before:∀i b,i<j->l[i]? = some b->b≠a
theorem wT {l:List Int} {a:Int} {j:Nat} (h:PlaceOf l a j) (hz:l.length<=1000):IsMeth W (n+1) (aG l) "index" [.int a] (.int j):=
 x3 (fun y hy=>by obtain ⟨b,_,rfl⟩:=List.mem_map.mp hy; rfl) (by rw [List.length_map]; exact hz) (by rw [List.getElem?_map,h.at_]; rfl) fun i e hi he=>by
  rw [List.getElem?_map] at he
  obtain ⟨b,hb,rfl⟩:=Option.map_eq_some_iff.mp he
  rw [sC,beq_eq_false_iff_ne]
  exact h.before i b hi hb
theorem CL (hC:C.env.scope=aR (aT 22)) (G:Glb W) {sc ce k or y ho x pa li to st cr l wi th ap fi la:Option Bd} {aL bL frL enL:List Int} {ls:List (List Nat)} {fI eI:Nat->Nat} (ha:aL.length=5) (hb:bL.length=5) (hfr:frL.length<=100) (hen:enL.length<=100) (hls:ls.length<=100)
  (hf:∀y,y<5->PlaceOf frL (aL.getD y 0) (fI y)) (he:∀y,y<5->PlaceOf enL (bL.getD y 0) (eI y)) (hle:∀y,y<5->fI y+eI y<=enL.length) (hst:∀y,y<5->natsD (eC ls y)=cG (fI y) 1 (enL.length-eI y-fI y)) {rest:List Stmt}
  (hr:∀y,cD W C (n+1) (lw sc ce k or (some (.val (aG aL))) (some (.val (aG bL))) y ho x pa li to st cr l (some (.val (gS ls))) wi th ap fi la (some (.val (aG frL))) (some (.val (aG enL)))) rest P) :
  cD W C (n+1) (lw sc ce k or (some (.val (aG aL))) (some (.val (aG bL))) y ho x pa li to st cr l (some (.val (gS ls))) wi th ap fi la (some (.val (aG frL))) (some (.val (aG enL)))) (st22 24::rest) P:=by
 have kr:C.env.kindOf "range" = some .globalImplicit:=aE hC (by kernel_rfl)
 have kl:C.env.kindOf "len" = some .globalImplicit:=aE hC (by kernel_rfl)
 have kli:C.env.kindOf "list" = some .globalImplicit:=aE hC (by kernel_rfl)
 refine aP (P':=fun fl r=>fl=.next/\∃y,r=lw sc ce k or (some (.val (aG aL))) (some (.val (aG bL))) y ho x pa li to st cr l (some (.val (gS ls))) wi th ap fi la (some (.val (aG frL))) (some (.val (aG enL))))
  (dU (ds:=cG 0 1 5) (bR G.range.1 G.range.2 kr (aA aH aD) fT (cB (by decide) (by decide) (by decide) (by decide)) (by decide)) (fun i r=>∃y,r=lw sc ce k or (some (.val (aG aL))) (some (.val (aG bL))) y ho x pa li to st cr l (some (.val (gS ls))) wi th ap fi la (some (.val (aG frL))) (some (.val (aG enL))))
   ⟨y,rfl⟩ (fun i hi r ⟨y,e⟩=>?_) fun r ⟨y,e⟩=>⟨rfl,y,e⟩) (fun r ⟨_,y,e⟩=>by subst e; exact hr y) fun fl r hne ⟨e,_⟩=>absurd e hne
 subst e
 rw [bU] at hi
 rw [cZ,show (0:Int)+i*1=(i:Int) from by lia]
 refine ⟨lw sc ce k or (some (.val (aG aL))) (some (.val (aG bL))) (some (.val (.int i))) ho x pa li to st cr l (some (.val (gS ls))) wi th ap fi la (some (.val (aG frL))) (some (.val (aG enL))),aV (by exact aF 6 rfl rfl),?_⟩
 have h1:=hle i hi
 refine bX (b:=!eJ (oO ls i) (.list (cG (fI i) 1 (enL.length-eI i-fI i)))) (aN (a5 (aC (by exact aB 15 rfl)) (aC (by exact aB 6 rfl)) (dB (d:=oO ls i) (by lia) (by lia) (by rw [Int.toNat_natCast,List.getElem?_map,List.getElem?_range hi]; rfl)))
  (t6 G kli kr (aA (dG (aC (by exact aB 21 rfl)) (aA (a5 (aC (by exact aB 4 rfl)) (aC (by exact aB 6 rfl)) (bW (by rw [ha]; exact hi) (by lia))) aD) (wT (hf i hi) (by lia))) (aA (aJ (bT G.len.1 G.len.2 (aA (aC (by exact aB 22 rfl)) aD) (lN (by rw [List.length_map]; lia)) kl)
   (dG (aC (by exact aB 22 rfl)) (aA (a5 (aC (by exact aB 5 rfl)) (aC (by exact aB 6 rfl)) (bW (by rw [hb]; exact hi) (by lia))) aD) (wT (he i hi) (by lia))) MY) aD)) EJ (cB (by lia) (by lia) (by rw [List.length_map]; lia) (by rw [List.length_map]; lia)) (by rw [List.length_map,vM (by lia)]; omega) (by omega)) (gW ?_)) ?_ (aQ ⟨_,rfl⟩)
 ·rw [←hst i hi,oO]
  exact CV 7 _ _
 ·rw [oO,hst i hi,cM]
  rfl
end
section
structure TG (by_:Bool) (t:SetTable):Prop where
 led:t.led=true\/by_=true
 ris:t.place.toList.Pairwise (· < ·)
 dum:t.dummies = #[]
theorem HG {xs:Array Nat} {j:Nat} (hr:∀a b:Nat,a<b->b<xs.size->xs.getD a 0<xs.getD b 0):∀fuel lo hi,lo<=hi->hi<=xs.size->hi-lo<=fuel->(∀k,k<lo->xs.getD k 0<j)->(∀k,hi<=k->k<xs.size->j<=xs.getD k 0) ->
  SetTable.below.go xs j fuel lo hi<=xs.size/\(∀k,k<SetTable.below.go xs j fuel lo hi->xs.getD k 0<j)/\(∀k,SetTable.below.go xs j fuel lo hi<=k->k<xs.size->j<=xs.getD k 0):=by
 intro fuel
 induction fuel with
 | zero =>
  intro lo hi h1 h2 h3 h4 h5
  have:lo=hi:=by lia
  subst this
  delta SetTable.below.go
  exact ⟨h2,h4,h5⟩
 | succ fuel ih =>
  intro lo hi h1 h2 h3 h4 h5
  rw [show SetTable.below.go xs j (fuel+1) lo hi=if lo<hi then (if xs.getD ((lo+hi)/2) j<j then SetTable.below.go xs j fuel ((lo+hi)/2+1) hi else SetTable.below.go xs j fuel lo ((lo+hi)/2)) else lo from rfl]
  by_cases hlt:lo<hi
  ·rw [if_pos hlt]
   have a1:lo<=(lo+hi)/2:=by omega
   have a2:(lo+hi)/2<hi:=by omega
   generalize (lo+hi)/2=m at a1 a2 ⊢
   have hm:=Nat.lt_of_lt_of_le a2 h2
   have e:xs.getD m j=xs.getD m 0:=by simp [Array.getD,hm]
   rw [e]
   by_cases hc:xs.getD m 0<j
   ·rw [if_pos hc]
    exact ih (m+1) hi a2 h2 (Nat.le_of_lt_succ (Nat.lt_of_lt_of_le (Nat.sub_lt_sub_left hlt (Nat.lt_succ_of_le a1)) h3)) (fun k hk=>(Nat.lt_or_eq_of_le (Nat.le_of_lt_succ hk)).elim (fun h=>Nat.lt_trans (hr k m h hm) hc) fun h=>h▸hc) h5
   ·rw [if_neg hc]
    have hc:=Nat.le_of_not_lt hc
    exact ih lo m a1 (Nat.le_of_lt hm) (Nat.le_of_lt_succ (Nat.lt_of_lt_of_le (Nat.sub_lt_sub_right a1 a2) h3)) h4 fun k hk hk2=>(Nat.lt_or_eq_of_le hk).elim (fun h=>Nat.le_trans hc (Nat.le_of_lt (hr m k h hk2))) fun h=>h▸hc
  ·rw [if_neg hlt]
   obtain rfl:=Nat.le_antisymm h1 (Nat.le_of_not_lt hlt)
   exact ⟨h2,h4,h5⟩
theorem nS (xs:Array Nat) (k:Nat):xs.getD k 0=xs.toList.getD k 0:=by
 simp only [List.getD_eq_getElem?_getD,Array.getElem?_toList,Array.getD_eq_getD_getElem?]
theorem vG {xs:Array Nat} (h:xs.toList.Pairwise (· < ·)):∀a b:Nat,a<b->b<xs.size->xs.getD a 0<xs.getD b 0:=fun a b h1 h2=>by
 have hb:b<xs.toList.length:=by rw [Array.length_toList]; exact h2
 have:=(List.pairwise_iff_getElem.mp h) a b (by lia) hb h1
 simpa [Array.getD,h2,Nat.lt_trans h1 h2] using this
theorem wR {xs:Array Nat} (h:xs.toList.Pairwise (· < ·)) (j:Nat):SetTable.below xs j<=xs.size/\(∀k,k<SetTable.below xs j->xs.getD k 0<j)/\(∀k,SetTable.below xs j<=k->k<xs.size->j<=xs.getD k 0):=
 HG (vG h) xs.size 0 xs.size (Nat.zero_le _) (Nat.le_refl _) (Nat.le_refl _) (fun k hk=>absurd hk (Nat.not_lt_zero _)) (fun k h1 h2=>absurd h2 (by lia))
theorem y1 {xs:Array Nat} (h:xs.toList.Pairwise (· < ·)) {j:Nat} (hn:xs[SetTable.below xs j]? ≠ some j):(SetTable.insertAt xs (SetTable.below xs j) j).toList.Pairwise (· < ·):=by
 revert h hn;revert xs j;refine no_implicit_lambda%(hK2 ?_);generalize (HK2 _).1=xs,(HK2 _).2=j;intro h hn
 obtain ⟨h1,h2,h3⟩:=wR h j
 have hr:=vG h
 generalize SetTable.below xs j=i at *
 rw [SetTable.toList_insertAt]
 refine List.pairwise_append.mpr ⟨h.sublist (List.take_sublist _ _),List.pairwise_cons.mpr ⟨fun b hb=>?_,h.sublist (List.drop_sublist _ _)⟩,fun a ha b hb=>?_⟩
 ·obtain ⟨k,hk,e⟩:=List.mem_iff_getElem.mp hb
  rw [List.getElem_drop] at e
  rw [List.length_drop,Array.length_toList] at hk
  have hk':i+k<xs.size:=Nat.add_lt_of_lt_sub' hk
  have e2:xs.getD (i+k) 0=b:=by rw [←e]; simp [Array.getD,hk']
  have q:=h3 (i+k) (Nat.le_add_right _ _) hk'
  rw [e2] at q
  rcases Nat.lt_or_eq_of_le q with hlt|hb'
  ·exact hlt
  ·exfalso
   have hb':=hb'.symm
   have hi:i<xs.size:=Nat.lt_of_le_of_lt (Nat.le_add_right _ _) hk'
   have q2:=h3 i (Nat.le_refl _) hi
   rcases Nat.eq_zero_or_pos k with hk0|hk0
   ·subst hk0
    apply hn
    refine (Array.getElem?_eq_getElem hi).trans ?_
    have e3:xs.getD i 0=b:=e2
    have e4:xs.getD i 0=xs[i]:=by simp [Array.getD,hi]
    simp only [←e4,e3,hb']
   ·have:=hr i (i+k) (Nat.lt_add_of_pos_right hk0) hk'
    rw [e2,hb'] at this
    exact absurd q2 (Nat.not_le.mpr this)
 ·obtain ⟨k,hk,e⟩:=List.mem_iff_getElem.mp ha
  rw [List.getElem_take] at e
  rw [List.length_take,Array.length_toList] at hk
  have hk':k<xs.size:=Nat.lt_of_lt_of_le hk (Nat.min_le_right _ _)
  have e2:xs.getD k 0=a:=by rw [←e]; simp [Array.getD,hk']
  have q:=h2 k (Nat.lt_of_lt_of_le hk (Nat.min_le_left _ _))
  rw [e2] at q
  rcases List.mem_cons.mp hb with rfl|hb
  ·exact q
  ·obtain ⟨k2,hk2,e3⟩:=List.mem_iff_getElem.mp hb
   rw [List.getElem_drop] at e3
   rw [List.length_drop,Array.length_toList] at hk2
   have hk2':i+k2<xs.size:=Nat.add_lt_of_lt_sub' hk2
   have e4:xs.getD (i+k2) 0=b:=by rw [←e3]; simp [Array.getD,hk2']
   have q3:=h3 (i+k2) (Nat.le_add_right _ _) hk2'
   rw [e4] at q3
   exact Nat.lt_of_lt_of_le q q3
theorem x9 (j:Nat):SetTable.has #[] j=false:=by
 unfold SetTable.has
 rfl
theorem y7 {t:SetTable} {j:Nat} (h:t.slot j=.empty):t.place[SetTable.below t.place j]? ≠ some j:=fun e=>by
 unfold SetTable.slot at h
 dsimp only at h
 rw [e] at h
 simp at h
theorem yN {t:SetTable} (hd:t.dummies = #[]) {j:Nat}:t.slot j≠.dummy:=fun h=>by
 unfold SetTable.slot at h
 rw [hd,x9] at h
 simp at h
 split at h<;>exact nomatch h
theorem DV {t:SetTable} {hashAt:Nat->Int} {h:Int} (hd:t.dummies = #[]):∀fuel (p:SetTable.Probe),p.dummy=none->∀j dm,SetTable.probe.go t hashAt h fuel p=some (.empty j dm)->dm=none/\t.slot j=.empty:=by
 intro fuel
 induction fuel with
 | zero=>exact fun p _ j dm e=>none_ e
 | succ fuel ih =>
  intro p hp j dm e
  have adv:(t.advance p).dummy=none:=by
   delta SetTable.advance
   dsimp only
   by_cases h:p.more>0
   ·rw [if_pos h]; exact hp
   ·rw [if_neg h]; exact hp
  replace e:(match t.slot p.j with
   | .empty=>some (.empty p.j p.dummy)
   | .dummy=>SetTable.probe.go t hashAt h fuel (t.advance { p with dummy:=some p.j })
   | .live i=>if (hashAt i==h)=true then some (.candidate p.j i (t.advance p)) else SetTable.probe.go t hashAt h fuel (t.advance p))=some (SetTable.Met.empty j dm):=e
  cases hs:t.slot p.j with
  | empty =>
   rw [hs] at e
   injection Option.some.inj e with e1 e2
   subst e1 e2
   exact ⟨hp,hs⟩
  | dummy=>exact absurd hs (yN hd)
  | live i =>
   rw [hs] at e
   dsimp only at e
   by_cases hq:(hashAt i==h)=true
   ·rw [if_pos hq] at e; exact nomatch e
   ·rw [if_neg hq] at e; exact ih _ adv j dm e
set_option tactic.hygienic true in
theorem xL {t:SetTable} (hd:t.dummies = #[]) {h:Int} {j:Nat} {wd:Bool} (e:t.freeSlot h=some (j,wd)):t.slot j=.empty:=by
 unfold SetTable.freeSlot at e
 split at e
 ·rename_i j' dm hp
  obtain ⟨e1,e2⟩:=DV hd _ _ rfl _ _ hp
  subst e1
  injection e with e
  injection e with e3 e4
  have e3:j'=j:=e3
  subst e3
  exact e2
 ·exact none_ e
theorem TG.plainOff {b:Bool} {t:SetTable} (h:TG b t):TG b { t with plain:=false }:=⟨h.led,h.ris,h.dum⟩
theorem TG.standIn {b:Bool} {t:SetTable} (h:TG b t) (n:Nat):TG b (t.standIn n):=⟨h.led,by
 show (Array.range n).toList.Pairwise (· < ·)
 rw [Array.toList_range]
 exact List.pairwise_lt_range,rfl⟩
theorem TG.orStandIn {b:Bool} {t:SetTable} (h:TG b t) (n:Nat):TG b (t.orStandIn n):=by
 unfold SetTable.orStandIn
 split
 ·exact h
 ·exact h.standIn n
set_option tactic.hygienic true in
theorem TG.layNew {b:Bool} {t:SetTable} (h:TG b t) (es:Array (Int×Value)) (k:Int) (x:Value):TG b (layNew t es k x).2.1:=by
 unfold PySem.layNew
 split
 ·rename_i slot wd e
  have q:=xL h.dum e
  refine TG.orStandIn ?_ _
  refine ⟨h.led,y1 h.ris (y7 q),?_⟩
  show (if SetTable.has t.dummies slot=true then SetTable.eraseAt t.dummies (SetTable.below t.dummies slot) else t.dummies) = #[]
  rw [h.dum,x9]
  rfl
 ·exact h.standIn _
theorem TG.relaid {b:Bool} {t t':SetTable} (h:TG b t) {hs:Array Int} {wanted:Nat} {order:Array Nat} (e:t.relaid hs wanted=some (t',order)):TG b t':=by
 unfold SetTable.relaid SetTable.laid at e
 cases ho:SetTable.layClean (SetTable.sizeAbove wanted-1) hs with
 | none=>rw [ho] at e; exact none_ e
 | some owner =>
  rw [ho] at e
  injection e with e
  injection e with e1 e2
  subst e1
  refine ⟨h.led,?_,rfl⟩
  show (List.toArray _).toList.Pairwise (· < ·)
  rw [List.map_filterMap]
  have:∀l:List Nat,l.Pairwise (· < ·)->(l.filterMap fun j=>Option.map (fun x:Nat×Nat=>x.1) ((owner.getD j none).map (j,·))).Pairwise (· < ·):=by
   intro l hl
   have e:(l.filterMap fun j=>Option.map (fun x:Nat×Nat=>x.1) ((owner.getD j none).map (j,·)))=l.filter fun j=>(owner.getD j none).isSome:=by
    clear hl
    induction l with
    | nil=>rfl
    | cons a l ih =>
     refine (List.filterMap_cons).trans ?_; rw [List.filter_cons,ih]
     cases owner.getD a none<;>rfl
   rw [e]
   exact hl.sublist (List.filter_sublist)
  exact this _ List.pairwise_lt_range
set_option tactic.hygienic true in
theorem TG.relayAll {b:Bool} {t:SetTable} (h:TG b t) (es:Array (Int×Value)) (wanted:Nat):TG b (relayAll t es wanted).2.1:=by
 unfold PySem.relayAll
 split
 ·rename_i t' order e
  dsimp only
  split
  ·exact h.relaid e
  ·exact h.standIn _
 ·exact h.standIn _
end
section
noncomputable def keyI (e:Int×Value):Int:=match e.2 with
 | .int k _=>k
 | _=>0
noncomputable def kC (es:Array (Int×Value)) (ep:Nat) (t:SetTable):Obj:={ cls:=.type "set",dict:=none,data:=.set es ep t }
noncomputable def SetX (prog:Program) (w:World) (h:Heap) (a:Addr) (ks:List Int):Prop:=∃es ep t,h.get? a=some (kC es ep t)/\ElemsOf (intKind prog w) es.toList/\List.Perm (es.toList.map keyI) ks/\es.size<scanBound/\t.fits es.size=true/\TG (w.params.followText "set-order") t
section
variable {prog:Program} {w:World} {A:Around} {E:Value->Shared->Prop} {s:Shared}
theorem vL {k:Int} {v:Value} (h:(intKind prog w).is k v=true) (i:Int):keyI (i,v)=k:=by
 obtain ⟨t,e⟩:=Value.isInt_shape h
 subst e; rfl
theorem wF {l:List (Int×Value)} (hel:ElemsOf (intKind prog w) l) (k:Int):(∃e∈l,(intKind prog w).is k e.2=true)↔k∈l.map keyI:=by
 constructor
 ·rintro ⟨e,he,hk⟩
  exact List.mem_map.mpr ⟨e,he,vL hk e.1⟩
 ·intro h
  obtain ⟨e,he,hk⟩:=List.mem_map.mp h
  obtain ⟨⟨k',hk',_⟩,_⟩:=hel e he
  have:=vL hk' e.1
  rw [show keyI (e.1,e.2)=keyI e from rfl,hk] at this
  subst this
  exact ⟨e,he,hk'⟩
theorem qM {h:Heap} {a:Addr} {es:Array (Int×Value)} {ep:Nat} {t:SetTable} (ho:h.get? a=some (kC es ep t)) {es':Array (Int×Value)} {t':SetTable} {ks:List Int}
  (hel:ElemsOf (intKind prog w) es'.toList) (hp:List.Perm (es'.toList.map keyI) ks) (hb:es'.size<scanBound) (hf:t'.fits es'.size=true) (ht:TG (w.params.followText "set-order") t') :
  (h.update a (Obj.putSet es' t')).get? a=some (kC es' (ep+1) t')/\SetX prog w (h.update a (Obj.putSet es' t')) a ks:=by
 have hg:(h.update a (Obj.putSet es' t')).get? a=some (kC es' (ep+1) t'):=by
  have:=Heap.get?_update_self (Obj.putSet es' t') ho (by rw [putSet_of es' t' rfl]; rfl)
  rw [putSet_of es' t' rfl] at this; exact this
 exact ⟨hg,es',ep+1,t',hg,hel,hp,hb,hf,ht⟩
theorem vU {g:Bool->Sem Unit} (hg:∀(b:Bool) (s₁:Shared) (Q':Unit->Shared->Prop),Q' () s₁->wpAny (model prog w) A (g b) Q' E s₁)
  {a:Addr} {es:Array (Int×Value)} {ep:Nat} {t:SetTable} (ho:s.heap.get? a=some (kC es ep t))
  {es1:Array (Int×Value)} {t2:SetTable} {ks:List Int} (hel1:ElemsOf (intKind prog w) es1.toList) (hp1:List.Perm (es1.toList.map keyI) ks)
  (hb1:es1.size<scanBound) (hf2:t2.fits es1.size=true) (ht2:TG (w.params.followText "set-order") t2) {wasDummy:Bool} {R:Option Bool->Shared->Prop}
  (h:∀h',Heap.SameBut a s.heap h'->SetX prog w h' a ks->R (some true) { s with heap:=h' }) :
  wpAny (model prog w) A (do
    storeSet a es1 t2
    if (!wasDummy&&t2.tooFull)=true then do
      g (relayAll t2 es1 (SetTable.grown es1.size)).2.2
      storeSet a (relayAll t2 es1 (SetTable.grown es1.size)).1 (relayAll t2 es1 (SetTable.grown es1.size)).2.1
      pure (some true)
     else pure (some true)) R E s:=by
 refine wpAny_bind (wpAny_storeSet_of ho rfl ?_ (fits_of_scanBound hb1))
 obtain ⟨ho1,hS1⟩:=qM (prog:=prog) (w:=w) ho hel1 hp1 hb1 hf2 ht2
 have hsb1:=Heap.SameBut.update s.heap a (Obj.putSet es1 t2)
 split
 ·have hp:=relayAll_perm t2 es1 (SetTable.grown es1.size)
  have hfr:=relayAll_fits t2 es1 (SetTable.grown es1.size)
  have htr:=ht2.relayAll es1 (SetTable.grown es1.size)
  generalize hRl:relayAll t2 es1 (SetTable.grown es1.size)=Rl at hp hfr htr ⊢
  obtain ⟨es2,t3,gave2⟩:=Rl
  dsimp only at hp hfr htr ⊢
  have hel2:ElemsOf (intKind prog w) es2.toList:=hel1.perm hp
  have hsz:es2.size=es1.size:=by rw [←Array.length_toList,hp.length_eq,Array.length_toList]
  have hb2:es2.size<scanBound:=by rw [hsz]; exact hb1
  refine wpAny_bind (hg _ _ _ ?_)
  refine wpAny_bind (wpAny_storeSet_of ho1 rfl ?_ (fits_of_scanBound hb2))
  obtain ⟨_,hS2⟩:=qM (prog:=prog) (w:=w) ho1 hel2 ((hp.map keyI).trans hp1) hb2 hfr htr
  exact wpAny_pure (h _ (hsb1.trans (Heap.SameBut.update _ a _)) hS2)
 ·exact wpAny_pure (h _ hsb1 hS1)
theorem J5 {a:Addr} {ks:List Int} {k:Int} {x:Value} {Q:Bool->Shared->Prop} (hkey:(intKind prog w).is k x=true) (hsc:x.scannable=true) (hS:SetX prog w s.heap a ks)
  (hroom:ks.length+1<scanBound)
  (h:∀h' b,Heap.SameBut a s.heap h'->SetX prog w h' a (step_dedup ks k)->Q b { s with heap:=h' }) :
  wpAny (model prog w) A (setAddHashed a x ((intKind prog w).hash k)) Q E s:=by
 revert prog w A E s a ks k x Q;refine no_implicit_lambda%(hK10 ?_);generalize (HK10 _).1=prog,(HK10 _).2.1=w,(HK10 _).2.2.1=A,(HK10 _).2.2.2.1=E,(HK10 _).2.2.2.2.1=s,(HK10 _).2.2.2.2.2.1=a,(HK10 _).2.2.2.2.2.2.1=ks,(HK10 _).2.2.2.2.2.2.2.1=k,(HK10 _).2.2.2.2.2.2.2.2.1=x,(HK10 _).2.2.2.2.2.2.2.2.2=Q;intro hkey hsc hS hroom h
 obtain ⟨es,ep,t,ho,hel,hp,hb,hf,ht⟩:=hS
 revert es ep t;refine no_implicit_lambda%(hK3 ?_);generalize (HK3 _).1=es,(HK3 _).2.1=ep,(HK3 _).2.2=t;intro ho hel hp hb hf ht
 have hlen:es.size=ks.length:=by rw [←Array.length_toList,←hp.length_eq,List.length_map]
 have hb1:es.size+1<scanBound:=by rw [hlen]; exact hroom
 unfold setAddHashed setAddHashedIn
 refine wpAny_holding (wpAny_bind (wpAny_setState_of ho rfl hf ?_))
 dsimp only
 rw [byScan_of hsc hb hel]
 simp only [↓reduceIte]
 unfold setAddByScan
 refine wpAny_bind ?_
 refine wpAny_bind (wpAny_rule ?_)
 refine wpAny_bind (wpAny_setScan_of hkey ho rfl hf hel ?_)
 cases hr:List.findIdx? (fun e=>(intKind prog w).is k e.2) es.toList with
 | some j =>
  dsimp only
  obtain ⟨hj,hpj,_⟩:=List.findIdx?_eq_some_iff_getElem.mp hr
  have hin:k∈ks:=hp.mem_iff.mp ((wF hel k).mp ⟨es.toList[j],List.getElem_mem hj,hpj⟩)
  refine wpAny_pure (wpAny_pure ?_)
  have e:s={ s with heap:=s.heap }:=by cases s; rfl
  rw [e]
  refine h s.heap _ (Heap.SameBut.refl a s.heap) ⟨es,ep,t,ho,hel,?_,hb,hf,ht⟩
  have:step_dedup ks k=ks:=by
   unfold step_dedup
   rw [if_pos]
   rw [List.any_eq_true]
   exact ⟨k,hin,by simp⟩
  rw [this]; exact hp
 | none =>
  dsimp only
  have hnin:k∉ks:=fun hin=>by
   obtain ⟨e,he,hpe⟩:=(wF hel k).mpr (hp.mem_iff.mpr hin)
   have:=List.findIdx?_eq_none_iff.mp hr e he
   rw [hpe] at this; exact Bool.noConfusion this
  have hstep:step_dedup ks k=ks++[k]:=by
   unfold step_dedup
   rw [if_neg]
   rw [List.any_eq_true]
   rintro ⟨y,hy,e⟩
   have e:y=k:=by simpa using e
   exact hnin (e▸hy)
  have hgw:∀(b:Bool) {s₁:Shared} {Q':Unit->Shared->Prop},Q' () s₁->wpAny (model prog w) A (match b with|true=>rule "set.scan.the-table-gave-way" | false=>pure ()) Q' E s₁:=
   fun b s₁ Q' hq=>by cases b<;>first|exact wpAny_pure hq|exact wpAny_rule hq
  have hperm:=layNew_perm t es ((intKind prog w).hash k) x
  have hfits:=layNew_fits t es ((intKind prog w).hash k) x
  have htg:=ht.layNew es ((intKind prog w).hash k) x
  generalize hL:layNew t es ((intKind prog w).hash k) x=L at hperm hfits htg ⊢
  obtain ⟨es1,t1,wasDummy,gave⟩:=L
  revert es1 t1 wasDummy gave;refine no_implicit_lambda%(hK4 ?_);generalize (HK4 _).1=es1,(HK4 _).2.1=t1,(HK4 _).2.2.1=wasDummy,(HK4 _).2.2.2=gave;intro hL hperm hfits htg
  dsimp only at hperm hfits htg ⊢
  rw [Array.toList_push] at hperm
  have hel1:ElemsOf (intKind prog w) es1.toList:=(hel.push hkey hsc).perm hperm
  have hp1:List.Perm (es1.toList.map keyI) (step_dedup ks k):=by
   refine (hperm.map keyI).trans ?_
   simp only [List.map_append,hstep,List.map_singleton,vL hkey]
   exact hp.append_right _
  have hb1':es1.size<scanBound:=by rw [←Array.length_toList,hperm.length_eq,List.length_append,Array.length_toList]; simpa using hb1
  refine wpAny_bind (hgw _ ?_)
  split
  ·refine wpAny_bind ?_
   rw [hashByValue_scannable 8 hsc]
   refine wpAny_pure ?_
   refine vU ?_ ho hel1 hp1 hb1' ?_ ?_ ?_
   ·intro b s₁ Q' hq; cases b<;>first|exact wpAny_pure hq|exact wpAny_rule hq
   ·split
    ·exact hfits
    ·exact SetTable.fits_plain_off hfits
   ·split
    ·exact htg
    ·exact htg.plainOff
   ·intro h' hsb hS'; dsimp only; exact wpAny_pure (h _ _ hsb hS')
  ·refine wpAny_bind (wpAny_pure ?_)
   simp only [↓reduceIte]
   refine vU ?_ ho hel1 hp1 hb1' hfits htg ?_
   ·intro b s₁ Q' hq; cases b<;>first|exact wpAny_pure hq|exact wpAny_rule hq
   ·intro h' hsb hS'; dsimp only; exact wpAny_pure (h _ _ hsb hS')
end
section
variable {prog:Program} {w:World} {A:Around} {R:Result->Shared->Prop} {I:Addr} {fp wr:List Addr} {G:Array GenState->Array GenState->Prop} {n:Nat} {P:Nat->Value->Prop} {St:Nat->Shared->Prop}
theorem xS (W:WalksS prog w A.in1 I fp wr G n P St) (S:Addr) (hSf:S∉fp)
  (val:Nat->Int) (hval:∀i v,P i v->∃t,v=.int (val i) t) (hb:n+1<scanBound) :
  ∀(k i:Nat) (s:Shared),n-i=k->i<=n->St i s ->
   SetX prog w s.heap S (firstMet val i) ->
   (∀s',Moved (S::wr) G s s'->SetX prog w s'.heap S (firstMet val n)->R (.ok (.ret .none)) s') ->
   codeAny (model prog w) A (.builtin "set.update.loop" ⟨[.ref S,.ref I],[]⟩) R s:=by
 revert W hSf hval hb;revert prog w A R I fp wr G n P St S val;refine no_implicit_lambda%(hK10 ?_);generalize (HK10 _).1=prog,(HK10 _).2.1=w,(HK10 _).2.2.1=A,(HK10 _).2.2.2.1=R,(HK10 _).2.2.2.2.1=I,(HK10 _).2.2.2.2.2.1=fp,(HK10 _).2.2.2.2.2.2.1=wr,(HK10 _).2.2.2.2.2.2.2.1=G,(HK10 _).2.2.2.2.2.2.2.2.1=n,(HK10 _).2.2.2.2.2.2.2.2.2=P;refine no_implicit_lambda%(hK3 ?_);generalize (HK3 _).1=St,(HK3 _).2.1=S,(HK3 _).2.2=val;intro W hSf hval hb
 have hSw:S∉wr:=fun h=>hSf (W.sub _ h)
 have hsub:∀b∈wr,b∈S::wr:=fun b hb=>List.mem_cons_of_mem _ hb
 intro k
 induction k with
 | zero =>
  intro i s hk hi hst hS hR
  have hin:i=n:=Nat.le_antisymm (by assumption) (Nat.le_of_sub_eq_zero (by assumption))
  subst hin
  refine codeAny_builtin F.entry_set_update_loop ?_
  rw [Around.under_plainId F.plain_set_update_loop _]
  show wpAny _ A.in1 (pyNext (.ref I)>>=_) _ _ s
  refine wpAny_bind (W.done s _ _ hst fun s' hm=>?_)
  show wpAny _ A.in1 (ret Value.none) _ _ s'
  exact wpAny_pure (hR s' (hm.mono hsub) (by
   obtain ⟨es,ep,t,ho,rest⟩:=hS
   exact ⟨es,ep,t,hm.heap S _ hSw ho,rest⟩))
 | succ k ih =>
  intro i s hk hi hst hS hR
  have hlt:i<n:=Nat.lt_of_sub_eq_succ (by assumption)
  refine codeAny_builtin F.entry_set_update_loop ?_
  rw [Around.under_plainId F.plain_set_update_loop _]
  show wpAny _ A.in1 (pyNext (.ref I)>>=_) _ _ s
  refine wpAny_bind (W.item i s _ _ hlt hst fun v s' hP hst' hm=>?_)
  obtain ⟨t,rfl⟩:=hval i v hP
  have hS':SetX prog w s'.heap S (firstMet val i):=by
   obtain ⟨es,ep,tb,ho,rest⟩:=hS
   exact ⟨es,ep,tb,hm.heap S _ hSw ho,rest⟩
  show wpAny _ A.in1 (holding [Value.int (val i) t] (setAdd S (.int (val i) t))>>=_) _ _ s'
  refine wpAny_bind (wpAny_holding ?_)
  unfold setAdd
  refine wpAny_holding ?_
  refine wpAny_bind ((intKind prog w).pyHash (k:=val i) (intKind_is _ _ _ _) ?_)
  have hroom:(firstMet val i).length+1<scanBound:=by have:=firstMet_length_le val i; lia
  refine J5 (s:={ s' with toks:=s'.toks+1 }) (intKind_is _ _ _ _) rfl hS' hroom fun h' b hsb hS2=>?_
  have hSi:SetX prog w h' S (firstMet val (i+1)):=by rw [firstMet_succ]; exact hS2
  refine wpAny_pure ⟨plainId_quiet F.plain_set_update_loop _,ih (i+1) _ (PU (by assumption)) hlt (W.frame _ s' _ _ hst' (Nat.le_succ _) fun b hb o e=>?_) hSi fun s'' hm'' hS''=>?_⟩
  ·rw [hsb.2 b (fun h:b=S=>hSf (by rw [←h]; exact hb))]; exact e
  ·refine hR s'' (Moved.trans W.gtrans ((hm.mono hsub).then_heap (Nat.le_succ _) fun b o hb e=>?_) hm'') hS''
   rw [hsb.2 b (fun h:b=S=>hb (by rw [h]; exact List.mem_cons_self))]; exact e
end
section
variable {prog:Program} {w:World} {A:Around} {E:Value->Shared->Prop} {s:Shared}
theorem DE (a:Value) {Q₁:Value->Shared->Prop}
  (h:Q₁ (.ref s.heap.objs.size) { s with heap:=s.heap.push (kC #[] 0 (.fresh 0 0 (!w.params.followText "set-order"))) }) :
  codeAny (model prog w) A (.call (.builtin "set.__new__") ⟨[.type "set",a],[]⟩) (wants Q₁ E) s:=by
 revert prog w A E s a Q₁;refine no_implicit_lambda%(hK7 ?_);generalize (HK7 _).1=prog,(HK7 _).2.1=w,(HK7 _).2.2.1=A,(HK7 _).2.2.2.1=E,(HK7 _).2.2.2.2.1=s,(HK7 _).2.2.2.2.2.1=a,(HK7 _).2.2.2.2.2.2=Q₁;intro h
 refine codeAny_of_tree ?_
 show wpAny _ A.in1 (do checkBuiltinCall "set.__new__" ⟨[.type "set",a],[]⟩; again (.builtin "set.__new__" ⟨[.type "set",a],[]⟩)) _ _ s
 refine wpAny_bind (wpAny_of_eq (F.newCall_set_1 a) (wpAny_pure ⟨plainId_quiet F.plain_set_new _,codeAny_builtin F.entry_set_new ?_⟩))
 rw [Around.under_plainId F.plain_set_new _]
 delta Builtin.«set.__new__» Builtin.Frozenset.newClass
 have hsub:=sub_set_self
 obtain ⟨hp,g,d,tk,os⟩:=s
 wp_walk
 refine wpAny_askSetting (wpAny_pure ?_)
 dsimp only
 simp only [newObj]
 refine wpAny_bind (wpAny_alloc (wpAny_pure ?_))
 exact wpAny_pure h
theorem zS {l:Addr} {items:Array Value} {ns:List Int} {Q:Value->Shared->Prop}
  (hh:A.handled=none) (hl:s.heap.IsList l items) (hi:IntsAre items.toList ns) (hb:items.size+1<scanBound)
  (h:∀(h':Heap) (tk:Nat),SetX prog w h' s.heap.objs.size (firstMet (fun i=>ns.getD i 0) items.size) ->
   (∀b o,b<s.heap.objs.size->s.heap.get? b=some o->h'.get? b=some o)->Q (.ref s.heap.objs.size) { s with heap:=h',toks:=tk }) :
  wpAny (model prog w) A (call (.type "set") [.ref l]) Q E s:=by
 revert prog w A E s l items ns Q;refine no_implicit_lambda%(hK9 ?_);generalize (HK9 _).1=prog,(HK9 _).2.1=w,(HK9 _).2.2.1=A,(HK9 _).2.2.2.1=E,(HK9 _).2.2.2.2.1=s,(HK9 _).2.2.2.2.2.1=l,(HK9 _).2.2.2.2.2.2.1=items,(HK9 _).2.2.2.2.2.2.2.1=ns,(HK9 _).2.2.2.2.2.2.2.2=Q;intro hh hl hi hb h
 obtain ⟨c,tl,hmro⟩:=F.called_set.mro
 have hmade:=F.called_set.made
 have hsub:=F.called_set.sub
 refine wpAny_call (codeAny_of_tree ?_)
 show wpAny _ _ (callAny (.type "set") _) _ _ _
 refine wpAny_pure ⟨Code.quiet_builtin _ (by decide +kernel),codeAny_builtin F.entry_type_call ?_⟩
 rw [Around.under_plain (weight_type_call_type "set" [.ref l] []) rfl]
 have h1:=F.called_set.notType
 have h2:=F.called_set.canCreate
 have hct:=F.typeCall_set_1 (.ref l)
 repeat (any_goals (first|assumption|wp_step))
 refine codeAny_mono (DE (.ref l) (E:=E) (Q₁:=fun obj s₁=>obj=.ref s.heap.objs.size/\s₁={ s with heap:=s.heap.push (kC #[] 0 (.fresh 0 0 (!w.params.followText "set-order"))) }) ⟨rfl,rfl⟩) fun r s₁ hr=>?_
 cases r with
 | error e=>exact hr
 | ok fl =>
  cases fl with
  | ret obj =>
   obtain ⟨rfl,rfl⟩:=hr
   generalize hled:(!w.params.followText "set-order")=led
   have hS:(s.heap.push { cls:=.type "set",dict:=none,data:=.set #[] 0 (.fresh 0 0 led) }).get? s.heap.objs.size=some { cls:=.type "set",dict:=none,data:=.set #[] 0 (.fresh 0 0 led) }:=Heap.get?_push_size _ rfl
   have hT:Shared.TypeIs { s with heap:=s.heap.push { cls:=.type "set",dict:=none,data:=.set #[] 0 (.fresh 0 0 led) } } (.ref s.heap.objs.size) "set":=⟨_,hS,rfl⟩
   have hli:=F.called_set.init.lookup
   have hbi:=F.called_set.init.bind (.ref s.heap.objs.size)
   unfold kC
   repeat (any_goals (first|assumption|wp_step))
   refine codeAny_mono (codeAny_call_builtin (R:=wants (fun r s₂=>r=.none/\∃h' tk,s₂={ s with heap:=h',toks:=tk } /\
     SetX prog w h' s.heap.objs.size (firstMet (fun i=>ns.getD i 0) items.size) /\
     (∀b o,b<s.heap.objs.size->s.heap.get? b=some o->h'.get? b=some o)) E) F.called_set.init.plain F.entry_set_init (check_set_init_1 hT ?_)) fun r₂ s₂ hr2=>?_
   ·obtain ⟨ol,hol,hcl,nl,hdl⟩:=hl
    obtain ⟨ocls,odict,odata,oslots⟩:=ol
    simp only at hcl hdl
    subst hcl; subst hdl
    have hol':(s.heap.push { cls:=.type "set",dict:=none,data:=.set #[] 0 (.fresh 0 0 led) }).get? l=some { cls:=.type "list",dict:=odict,data:=.seq items nl,slots:=oslots }:=Heap.get?_push_of_some _ hol
    have hsls:=F.sub_list_set
    have hslf:=F.sub_list_frozenset
    have hne:(Value.type "list" == Value.type "dict")=false:=by decide
    have hl1:(s.heap.push { cls:=.type "set",dict:=none,data:=.set #[] 0 (.fresh 0 0 led) }).IsList l items:=⟨_,hol',rfl,nl,rfl⟩
    unfold Builtin.«set.__init__» noKeywords Builtin.Frozenset.updateFrom
    generalize hPI:pyIter=PI
    wp_walk
    subst hPI
    refine wpAny_pyIter_list hl1 ?_
    refine wpAny_bind (wpAny_runValue ?_)
    have hlS:l<s.heap.objs.size:=Heap.lt_size hol
    have hh3:A.in1.in1.in1.handled=none:=by simp [hh]
    have hneI:l≠(s.heap.push { cls:=.type "set",dict:=none,data:=.set #[] 0 (.fresh 0 0 led) }).objs.size:=by
     rw [Heap.size_push]; exact Nat.ne_of_lt (Nat.lt_succ_of_lt hlS)
    have hSf:s.heap.objs.size∉[(s.heap.push { cls:=.type "set",dict:=none,data:=.set #[] 0 (.fresh 0 0 led) }).objs.size,l]:=by
     rw [Heap.size_push]; simp only [List.mem_cons,List.mem_singleton,List.not_mem_nil,or_false,not_or]
     exact ⟨Nat.ne_of_lt (Nat.lt_succ_self _),Nat.ne_of_gt hlS⟩
    have hval:∀(i:Nat) (v:Value),items[i]? = some v->∃t,v=.int ((fun i=>ns.getD i 0) i) t:=fun i v hv =>
     IntsAre.int_at hi i v (by rw [Array.getElem?_toList]; exact hv)
    refine xS ((Walks.list hh3 _ l hneI items).toS) s.heap.objs.size
     hSf (fun i=>ns.getD i 0) hval hb (items.size-0) 0 _ (by lia) (Nat.zero_le _)
     ⟨⟨_,Heap.get?_push_size _ rfl,rfl,rfl⟩,(hl1.push _)⟩ ?hS0 ?hR
    case hS0 =>
     have hget:((s.heap.push { cls:=.type "set",dict:=none,data:=.set #[] 0 (.fresh 0 0 led) }).push { cls:=.type "list_iterator",data:=.fields #[.ref l,.int 0 0] }).get? s.heap.objs.size
       = some { cls:=.type "set",dict:=none,data:=.set #[] 0 (.fresh 0 0 led) }:=Heap.get?_push_of_some _ hS
     refine ⟨#[],0,_,hget,(fun e he=>by simp at he),.nil,by decide,by rfl,?_,?_,rfl⟩
     ·show led=true\/_
      subst hled
      cases w.params.followText "set-order"
      ·exact .inl rfl
      ·exact .inr rfl
     ·exact List.Pairwise.nil
    case hR =>
     intro s' hm hS'
     obtain ⟨h',g',d',tk',os'⟩:=s'
     have eg:g'=s.gens:=hm.gens
     have ed:d'=s.drawn:=hm.drawn
     have eo:os'=s.os:=hm.os
     subst eg; subst ed; subst eo
     show wpAny _ _ _ _ _ _
     refine wpAny_pure ?_
     show wpAny _ _ (ret Value.none) _ _ _
     refine wpAny_pure ⟨rfl,h',tk',rfl,hS',fun b o hb e=>?_⟩
     have hb1:b≠s.heap.objs.size:=Nat.ne_of_lt hb
     have hb2:b≠(s.heap.push { cls:=.type "set",dict:=none,data:=.set #[] 0 (.fresh 0 0 led) }).objs.size:=by
      rw [Heap.size_push]; exact Nat.ne_of_lt (Nat.lt_succ_of_lt hb)
     exact hm.heap b o (by simp only [List.mem_cons,List.mem_singleton,List.not_mem_nil,or_false,not_or]; exact ⟨hb1,hb2⟩) (Heap.get?_push_of_some _ (Heap.get?_push_of_some _ e))
   ·cases r₂ with
    | error e=>exact hr2
    | ok fl2 =>
     cases fl2 with
     | ret r =>
      obtain ⟨rfl,h',tk,rfl,hS',hk'⟩:=hr2
      repeat (any_goals (first|assumption|wp_step))
      exact h _ _ hS' hk'
     | _=>exact hr2.elim
  | _=>exact hr.elim
end
end
section
noncomputable def g4 (first:Value) (i:Nat) (a:Value) (n ep:Nat):Obj:={ cls:=.type "set_iterator",dict:=none,data:=.fields #[first,rawInt i,a,rawInt n,rawInt ep],slots:=#[] }
section
variable {prog:Program} {w:World} {A:Around} {E:Value->Shared->Prop} {s:Shared}
theorem uP {M:Model} {src:Source} {n:Nat} {Q:Nat->Shared->Prop} (hn:n≠0) (h:∀i,i<n->Q i { s with drawn:=s.drawn.bump src }):wpAny M A (choose src n) Q E s:=
 fun Γ p hΓ=>⟨hn,h _ (Nat.mod_lt _ (Nat.pos_of_ne_zero hn))⟩
theorem N4 (hh:A.handled=none) {α:Type} {QQ:α->Shared->Prop}
  (h:∀x h',(∀b o,s.heap.get? b=some o->h'.get? b=some o)->Shared.TypeIs { s with heap:=h' } x "StopIteration" -> E x { s with heap:=h' }) :
  wpAny (model prog w) A (do raiseNew (← newExc (.type "StopIteration") []):Sem α) QQ E s:=by
 refine wpAny_bind ?_
 simp only [newExc,newTuple]
 refine wpAny_bind (wpAny_newObj_type ?_ (by size_fits))
 refine wpAny_bind (m:=firstArgMember _ _) (wpAny_of_eq (a:=Value.none) (by first|rfl|(simp only [firstArgMember]; rfl)) ?_)
 refine wpAny_newObj_type ?_ (by size_fits)
 simp only [raiseNew]
 refine wpAny_bind (wpAny_handled ?_)
 rw [hh]
 refine wpAny_bind (wpAny_pure (wpAny_throw ?_))
 exact h _ _ (fun b o e=>Heap.get?_push_of_some _ (Heap.get?_push_of_some _ e)) ⟨_,Heap.get?_push_size _ rfl,rfl⟩
theorem lD {I a:Addr} {first:Value} {i ep:Nat} {es:Array (Int×Value)} {t:SetTable} {Q:Option Value->Shared->Prop} (hit:s.heap.get? I=some (g4 first i (.ref a) es.size ep)) (hS:s.heap.get? a=some (kC es ep t)) (hf:t.fits es.size=true)
  (h:wpAny (model prog w) A.in1 (if let .int slot _:=first then do
    match←setNext a slot.toNat (i:Int).toNat (ep:Int).toNat with
    | some (x,next) =>
     setField (.ref I) 0 (rawInt next)
     setField (.ref I) 1 (rawInt ((i:Int)+1))
     ret x
    | none=>setField (.ref I) 2 .none; raiseNew (← newExc (.type "StopIteration") [])
   else do
    let some places←seqItems? first|unsupported "internal:set_iterator"
    match places[(i:Int).toNat]? with
    | some (.int place _) =>
     let x←setNextDrawn a place.toNat (ep:Int).toNat
     setField (.ref I) 1 (rawInt ((i:Int)+1))
     ret x
    | some _=>unsupported "internal:set_iterator"
    | none=>setField (.ref I) 0 (rawInt 0); setField (.ref I) 2 .none; raiseNew (← newExc (.type "StopIteration") []))
   (fun fin s'=>∃r,fin=.done (.ret r)/\Q (some r) s') (fun e s'=>Shared.TypeIs s' e "StopIteration" /\ Q none s') s) :
  wpAny (model prog w) A (pyNext (.ref I)) Q E s:=by
 have hT:s.TypeIs (.ref I) "set_iterator":=⟨_,hit,rfl⟩
 unfold pyNext
 refine wpAny_bind (wpAny_attempt (wpAny_callSpecial?_slot (name:=Str.ofString "__next__") hT eE
  (wpAny_call_entry eE hT rE ?_ (sF _))))
 unfold Builtin.«set_iterator.__next__»
 refine wpAny_bind (m:=slotArgs "__next__" 0 _) (wpAny_pure ?_)
 refine wpAny_bind (wpAny_fieldsOf hit rfl ?_)
 dsimp only [rawInt]
 refine wpAny_bind (wpAny_setEntries_of hS rfl hf ?_)
 rw [if_neg (by simp)]
 exact wpAny_mono h (fun fin s' ⟨r,e,q⟩=>⟨r,e,wpAny_pure q⟩) (fun e s' ⟨hT,q⟩=>wpAny_bind (wpAny_isInstance (T:="StopIteration") (b:=true) hT isSubtype_stop (wpAny_pure q)))
theorem lL {a:Addr} {es:Array (Int×Value)} {ep slot g e':Nat} {t:SetTable} {Q:Option (Value×Nat)->Shared->Prop} (hS:s.heap.get? a=some (kC es ep t)) (hf:t.fits es.size=true) (hb:w.params.followText "set-order" = false)
  (hd:(!t.plain&&decide (es.size>1))=false) (hled:t.led=true)
  (h:Q (match es[SetTable.below t.place slot]?,t.place[SetTable.below t.place slot]? with|some (_,x),some j=>some (x,j+1)|_,_=>none) s):wpAny (model prog w) A (setNext a slot g e') Q E s:=by
 unfold setNext setsByText
 refine wpAny_bind (wpAny_setState_of hS rfl hf ?_)
 refine wpAny_bind (wpAny_bind (wpAny_askSetting (wpAny_pure ?_)))
 show wpAny _ _ (if w.params.followText "set-order" = true then _ else _) _ _ _
 rw [if_neg (by rw [hb]; decide)]
 refine wpAny_ite_split (fun hab=>?_) fun _=>?_
 ·have:(!t.plain&&decide (es.size>1))=true:=hab
  rw [hd] at this; cases this
 refine wpAny_bind (wpAny_of_eq (a:=()) ?_ ?_)
 ·show (if (!t.led && !es.isEmpty)=true then _ else pure ())=pure ()
  rw [hled,if_neg (by simp)]
 ·exact wpAny_pure h
theorem nF {a:Addr} {es:Array (Int×Value)} {ep slot g:Nat} {t:SetTable} {Q:Option (Value×Nat)->Shared->Prop} (hS:s.heap.get? a=some (kC es ep t)) (hf:t.fits es.size=true) (hb:w.params.followText "set-order" = true)
  (h:Q (((pickOrder (w.params.setOrder a ep) es)[g]?).map fun e=>(e.2,slot)) s):wpAny (model prog w) A (setNext a slot g ep) Q E s:=by
 unfold setNext setsByText
 refine wpAny_bind (wpAny_setState_of hS rfl hf ?_)
 refine wpAny_bind (wpAny_bind (wpAny_askSetting (wpAny_pure ?_)))
 show wpAny _ _ (if w.params.followText "set-order" = true then _ else _) _ _ _
 rw [if_pos hb,if_neg (by simp)]
 refine wpAny_bind ?_
 unfold setWalk setsByText
 refine wpAny_bind (wpAny_setState_of hS rfl hf ?_)
 refine wpAny_bind (wpAny_bind (wpAny_askSetting (wpAny_pure ?_)))
 show wpAny _ _ (if w.params.followText "set-order" = true then _ else _) _ _ _
 rw [if_pos hb]
 refine wpAny_bind (wpAny_askSetting ?_)
 exact wpAny_pure (wpAny_pure h)
theorem o7 {a:Addr} {es:Array (Int×Value)} {ep pl:Nat} {t:SetTable} {e:Int×Value} {Q:Value->Shared->Prop} (hS:s.heap.get? a=some (kC es ep t)) (hf:t.fits es.size=true) (he:es[pl]? = some e) (h:Q e.2 s):wpAny (model prog w) A (setNextDrawn a pl ep) Q E s:=by
 unfold setNextDrawn
 refine wpAny_bind (wpAny_setState_of hS rfl hf ?_)
 dsimp only
 rw [if_neg (by simp),he]
 exact wpAny_pure h
theorem AE {I:Addr} {first f':Value} {i n ep:Nat} {sv x:Value} {Q:Fin->Shared->Prop} (hit:s.heap.get? I=some (g4 first i sv n ep))
  (h:∀h',h'.get? I=some (g4 f' (i+1) sv n ep)->(∀b o,b≠I->s.heap.get? b=some o->h'.get? b=some o)->Q (.done (.ret x)) { s with heap:=h' }) :
  wpAny (model prog w) A (do setField (.ref I) 0 f'; setField (.ref I) 1 (rawInt ((i:Int)+1)); ret x) Q E s:=by
 refine wpAny_bind (wpAny_setField_rec hit (by simp) fun hM e₁ s₁=>?_)
 refine wpAny_bind (wpAny_setField_rec e₁ (by simp) fun hU e₂ s₂=>?_)
 refine wpAny_pure (h hU ?_ fun b o hb e=>s₂.extBut b o hb (s₁.extBut b o hb e))
 rw [e₂]
 unfold g4
 simp [rawInt]
theorem JL {I:Addr} {first:Value} {i n ep:Nat} {sv x:Value} {Q:Fin->Shared->Prop} (hit:s.heap.get? I=some (g4 first i sv n ep))
  (h:∀h',h'.get? I=some (g4 first (i+1) sv n ep)->(∀b o,b≠I->s.heap.get? b=some o->h'.get? b=some o)->Q (.done (.ret x)) { s with heap:=h' }) :
  wpAny (model prog w) A (do setField (.ref I) 1 (rawInt ((i:Int)+1)); ret x) Q E s:=by
 refine wpAny_bind (wpAny_setField_rec hit (by simp) fun hU e₂ s₂=>?_)
 refine wpAny_pure (h hU ?_ fun b o hb e=>s₂.extBut b o hb e)
 rw [e₂]
 unfold g4
 simp [rawInt]
theorem vF {I:Addr} {first:Value} {i n ep:Nat} {sv:Value} {Q:Fin->Shared->Prop} {QQ:Option Value->Shared->Prop} (hh:A.handled=none) (hit:s.heap.get? I=some (g4 first i sv n ep))
  (h:∀h',(∀b o,b≠I->s.heap.get? b=some o->h'.get? b=some o)->QQ none { s with heap:=h' }) :
  wpAny (model prog w) A (do setField (.ref I) 2 .none; raiseNew (← newExc (.type "StopIteration") []):Sem Fin) Q (fun e s'=>Shared.TypeIs s' e "StopIteration" /\ QQ none s') s:=by
 refine wpAny_bind (wpAny_setField_rec hit (by simp) fun hM e₁ s₁=>?_)
 exact N4 hh fun x h' hk hT=>⟨hT,h h' fun b o hb e=>hk b o (s₁.extBut b o hb e)⟩
end
end
section
noncomputable def slotAt (t:SetTable):Nat->Nat
 | 0=>0
 | i+1=>t.place.getD i 0+1
theorem qW {t:SetTable} (h:t.place.toList.Pairwise (· < ·)) {i:Nat} (hi:i<=t.place.size):SetTable.below t.place (slotAt t i)=i:=by
 obtain ⟨h1,h2,h3⟩:=wR h (slotAt t i)
 have hr:=vG h
 generalize SetTable.below t.place (slotAt t i)=b at *
 cases i with
 | zero =>
  rcases Nat.eq_zero_or_pos b with e|e
  ·exact e
  ·have:=h2 0 e
   exact absurd this (Nat.not_lt_zero _)
 | succ i =>
  have e0:slotAt t (i+1)=t.place.getD i 0+1:=rfl
  rw [e0] at h2 h3
  rcases Nat.lt_trichotomy b (i+1) with e|e|e
  ·exact absurd (h3 i (Nat.le_of_lt_succ e) hi) (Nat.not_succ_le_self _)
  ·exact e
  ·have q:=h2 (i+1) e
   have q2:=hr i (i+1) (Nat.lt_succ_self _) (Nat.lt_of_lt_of_le e h1)
   exact absurd q (Nat.not_lt.mpr q2)
theorem sS {t:SetTable} {n:Nat} (h:t.fits n=true):t.place.size=n:=by
 unfold SetTable.fits at h
 rw [Bool.and_eq_true,beq_iff_eq] at h
 exact h.1
section
variable {prog:Program} {w:World} {A:Around} {E:Value->Shared->Prop} {s:Shared}
theorem pX {I:Addr} {first:Value} {i n ep:Nat} {sv:Value} {Q:Value->Shared->Prop} (hit:s.heap.get? I=some (g4 first i sv n ep)) (h:Q (.ref I) s):wpAny (model prog w) A (pyIter (.ref I)) Q E s:=by
 have hT:s.TypeIs (.ref I) "set_iterator":=⟨_,hit,rfl⟩
 refine wpAny_pyIter_slot hT lM (wpAny_call_entry lM hT pZ ?_ (sN _))
 exact wpAny_pure ⟨_,rfl,"set_iterator",_,hT,eE.lookup,h⟩
theorem vO (hh:A.handled=none) (I a:Addr) (hne:a≠I) {es:Array (Int×Value)} {ep:Nat} {t:SetTable} (hf:t.fits es.size=true) (ht:TG (w.params.followText "set-order") t) (hb:w.params.followText "set-order" = false)
  (hd:(!t.plain&&decide (es.size>1))=false) :
  Walks prog w A I [I,a] [I] es.size (fun i v=>∃e,es[i]? = some e/\v=e.2) (fun i h=>h.get? I=some (g4 (rawInt (slotAt t i:Nat)) i (.ref a) es.size ep)/\h.get? a=some (kC es ep t)) where
 sub:=fun b hb=>by simp at hb; simp [hb]
 frame:=fun _ _ _ st hk=>⟨hk I (by simp) _ st.1,hk a (by simp) _ st.2⟩
 item:=fun i s Q E hi st hQ=>by
  have hled:t.led=true:=ht.led.elim id fun h=>by rw [hb] at h; cases h
  have hz:=sS hf
  have e1:es[i]? = some es[i]:=Array.getElem?_eq_getElem hi
  have e2:t.place[i]? = some (t.place.getD i 0):=by
   have:i<t.place.size:=by lia
   simp [Array.getD,this]
  refine lD st.1 st.2 hf ?_
  refine wpAny_bind (lL st.2 hf hb hd hled ?_)
  rw [Int.toNat_natCast,qW ht.ris (by lia),e1,e2]
  refine AE (f':=rawInt (slotAt t (i+1):Nat)) st.1 fun h' q1 q2=>⟨_,rfl,hQ _ h' s.toks ⟨_,e1,rfl⟩ ⟨q1,q2 a _ hne st.2⟩ fun b o hb e=>q2 b o (fun z=>hb (by simp [z])) e⟩
 done:=fun s Q E st hQ=>by
  have hled:t.led=true:=ht.led.elim id fun h=>by rw [hb] at h; cases h
  have hz:=sS hf
  have e1:es[es.size]? = none:=Array.getElem?_eq_none (Nat.le_refl _)
  refine lD st.1 st.2 hf ?_
  refine wpAny_bind (lL st.2 hf hb hd hled ?_)
  rw [Int.toNat_natCast,qW ht.ris (by lia),e1]
  exact vF (A:=A.in1) hh st.1 fun h' q2=>hQ h' s.toks fun b o hb e=>q2 b o (fun z=>hb (by simp [z])) e
 self:=fun _ _ _ _ st hQ=>pX st.1 hQ
theorem lY {α:Type}:∀(l:List α) (k:Nat) (h:k<l.length),([l[k]]++l.eraseIdx k).Perm l
 | [],k,h=>absurd h (Nat.not_lt_zero _)
 | a::l,0,h=>List.Perm.refl _
 | a::l,k+1,h=>by
  have hk:k<l.length:=Nat.lt_of_succ_lt_succ h
  have ih:=lY l k hk
  exact (List.Perm.swap a l[k] _).trans (ih.cons a)
theorem B4 {α:Type} (next:Nat->Nat):∀(fuel k:Nat) (left:List α) (out:Array α),left.length<=fuel->(pickOrder.go next fuel k left out).toList.Perm (out.toList++left):=by
 intro fuel
 induction fuel with
 | zero =>
  intro k left out h
  have:left=[]:=List.length_eq_zero_iff.mp (Nat.le_zero.mp h)
  subst this
  rw [show pickOrder.go next 0 k ([]:List α) out=out from rfl,List.append_nil]
 | succ fuel ih =>
  intro k left out h
  show (match left[next k%left.length]? with|some x=>pickOrder.go next fuel (k+1) (left.eraseIdx (next k%left.length)) (out.push x)|none=>out).toList.Perm _
  cases left with
  | nil=>simp
  | cons a l =>
   have hlt:next k%(a::l).length<(a::l).length:=Nat.mod_lt _ (by simp)
   rw [List.getElem?_eq_getElem hlt]
   dsimp only
   refine (ih (k+1) _ _ (by rw [List.length_eraseIdx_of_lt hlt]; lia)).trans ?_
   rw [Array.toList_push,List.append_assoc]
   refine List.Perm.append_left _ ?_
   exact lY _ _ hlt
theorem kF {α:Type} (next:Nat->Nat) (xs:Array α):(pickOrder next xs).toList.Perm xs.toList:=by
 unfold pickOrder
 have:=B4 next xs.size 0 xs.toList #[] (by rw [Array.length_toList]; exact Nat.le_refl _)
 simpa using this
theorem y5 (hh:A.handled=none) (I a:Addr) (hne:a≠I) {es:Array (Int×Value)} {ep:Nat} {t:SetTable} (hf:t.fits es.size=true) (hb:w.params.followText "set-order" = true) :
  Walks prog w A I [I,a] [I] es.size (fun i v=>∃e,(pickOrder (w.params.setOrder a ep) es)[i]? = some e/\v=e.2) (fun i h=>h.get? I=some (g4 (rawInt (0:Nat)) i (.ref a) es.size ep)/\h.get? a=some (kC es ep t)) where
 sub:=fun b hb=>by simp at hb; simp [hb]
 frame:=fun _ _ _ st hk=>⟨hk I (by simp) _ st.1,hk a (by simp) _ st.2⟩
 item:=fun i s Q E hi st hQ=>by
  have hz:(pickOrder (w.params.setOrder a ep) es).size=es.size:=by rw [←Array.length_toList,(kF _ es).length_eq,Array.length_toList]
  have e1:(pickOrder (w.params.setOrder a ep) es)[i]? = some (pickOrder (w.params.setOrder a ep) es)[i]:=Array.getElem?_eq_getElem (by omega)
  refine lD st.1 st.2 hf ?_
  show wpAny _ _ (setNext a ((0:Nat):Int).toNat ((i:Int).toNat) ((ep:Int).toNat)>>=_) _ _ s
  rw [Int.toNat_natCast,Int.toNat_natCast,Int.toNat_natCast]
  refine wpAny_bind (nF st.2 hf hb ?_)
  rw [e1]
  refine AE (f':=rawInt (0:Nat)) st.1 fun h' q1 q2=>⟨_,rfl,hQ _ h' s.toks ⟨_,e1,rfl⟩ ⟨q1,q2 a _ hne st.2⟩ fun b o hb e=>q2 b o (fun z=>hb (by simp [z])) e⟩
 done:=fun s Q E st hQ=>by
  have hz:(pickOrder (w.params.setOrder a ep) es).size=es.size:=by rw [←Array.length_toList,(kF _ es).length_eq,Array.length_toList]
  have e1:(pickOrder (w.params.setOrder a ep) es)[es.size]? = none:=Array.getElem?_eq_none (by lia)
  refine lD st.1 st.2 hf ?_
  show wpAny _ _ (setNext a ((0:Nat):Int).toNat ((es.size:Int).toNat) ((ep:Int).toNat)>>=_) _ _ s
  rw [Int.toNat_natCast,Int.toNat_natCast,Int.toNat_natCast]
  refine wpAny_bind (nF st.2 hf hb ?_)
  rw [e1]
  exact vF (A:=A.in1) hh st.1 fun h' q2=>hQ h' s.toks fun b o hb e=>q2 b o (fun z=>hb (by simp [z])) e
 self:=fun _ _ _ _ st hQ=>pX st.1 hQ
noncomputable def BO (pl:List Nat):Obj:={ cls:=.type "tuple",dict:=none,data:=.seq (pl.map fun (i:Nat)=>rawInt i).toArray,slots:=#[] }
theorem x6 (hh:A.handled=none) (I a u:Addr) (hne:a≠I) (hnu:u≠I) {es:Array (Int×Value)} {ep:Nat} {t:SetTable} {pl:List Nat} (hf:t.fits es.size=true) (hp:pl.Perm (List.range es.size)) :
  Walks prog w A I [I,a,u] [I] es.size (fun i v=>∃e,(pl[i]?.bind (es[·]?))=some e/\v=e.2) (fun i h=>h.get? I=some (g4 (.ref u) i (.ref a) es.size ep)/\h.get? a=some (kC es ep t)/\h.get? u=some (BO pl)) where
 sub:=fun b hb=>by simp at hb; simp [hb]
 frame:=fun _ _ _ st hk=>⟨hk I (by simp) _ st.1,hk a (by simp) _ st.2.1,hk u (by simp) _ st.2.2⟩
 item:=fun i s Q E hi st hQ=>by
  have hz:pl.length=es.size:=by rw [hp.length_eq,List.length_range]
  have hpi:pl[i]? = some pl[i]:=List.getElem?_eq_getElem (by omega)
  have hlt:pl[i]<es.size:=List.mem_range.mp (hp.mem_iff.mp (List.getElem_mem (by lia)))
  have e1:es[pl[i]]? = some es[pl[i]]:=Array.getElem?_eq_getElem hlt
  have e2:(pl.map fun (i:Nat)=>rawInt i).toArray[i]? = some (rawInt pl[i]):=by
   rw [List.getElem?_toArray,List.getElem?_map,hpi]; rfl
  refine lD st.1 st.2.1 hf ?_
  show wpAny _ _ (seqItems? (.ref u)>>=_) _ _ s
  refine wpAny_bind (wpAny_seqItems st.2.2 rfl ?_)
  dsimp only
  rw [Int.toNat_natCast,e2]
  show wpAny _ _ (setNextDrawn a ((pl[i]:Nat):Int).toNat ((ep:Int).toNat)>>=_) _ _ s
  rw [Int.toNat_natCast,Int.toNat_natCast]
  refine wpAny_bind (o7 st.2.1 hf e1 ?_)
  refine JL st.1 fun h' q1 q2=>⟨_,rfl,hQ _ h' s.toks ⟨_,by rw [hpi]; exact e1,rfl⟩ ⟨q1,q2 a _ hne st.2.1,q2 u _ hnu st.2.2⟩ fun b o hb e=>q2 b o (fun z=>hb (by simp [z])) e⟩
 done:=fun s Q E st hQ=>by
  have hz:pl.length=es.size:=by rw [hp.length_eq,List.length_range]
  have e2:(pl.map fun (i:Nat)=>rawInt i).toArray[es.size]? = none:=by
   rw [List.getElem?_toArray,List.getElem?_map,List.getElem?_eq_none (by lia)]; rfl
  refine lD st.1 st.2.1 hf ?_
  refine wpAny_bind (wpAny_seqItems st.2.2 rfl ?_)
  dsimp only
  rw [Int.toNat_natCast,e2]
  refine wpAny_bind (wpAny_setField_rec st.1 (by simp) fun hM q1 s₁=>?_)
  exact vF (A:=A.in1) (s:={ s with heap:=hM }) (first:=rawInt (0:Nat)) (i:=es.size) (n:=es.size) (sv:=.ref a) (ep:=ep) hh (by rw [q1]; unfold g4; simp [rawInt]) fun h' q2=>hQ h' s.toks fun b o hb e=>q2 b o (fun z=>hb (by simp [z])) (s₁.extBut b o (fun z=>hb (by simp [z])) e)
 self:=fun _ _ _ _ st hQ=>pX st.1 hQ
end
end
section
section
variable {prog:Program} {w:World} {A:Around} {E:Value->Shared->Prop} {s:Shared}
theorem uA {α:Type} {M:Model}:∀(n:Nat) (xs:List α) (s:Shared) (Q:List α->Shared->Prop),xs.length<=n->(∀ys d,ys.Perm xs->Q ys { s with drawn:=d })->wpAny M A (drawOrder n xs) Q E s:=by
 intro n
 induction n with
 | zero =>
  intro xs s Q hz h
  have:xs=[]:=List.length_eq_zero_iff.mp (Nat.le_zero.mp hz)
  subst this
  exact wpAny_pure (h [] s.drawn .nil)
 | succ n ih =>
  intro xs s Q hz h
  cases xs with
  | nil=>exact wpAny_pure (h [] s.drawn .nil)
  | cons x xs =>
   refine wpAny_bind (uP (by simp) fun i hi=>?_)
   rw [List.getElem?_eq_getElem hi]
   dsimp only
   refine wpAny_bind (ih _ _ _ (by rw [List.length_eraseIdx_of_lt hi]; simp at hz ⊢; omega) fun ys d hp=>wpAny_pure ?_)
   exact h _ d ((hp.cons _).trans (lY _ _ hi))
theorem wC {a:Addr} {es:Array (Int×Value)} {ep:Nat} {t:SetTable} {Q:Bool->Shared->Prop} (hS:s.heap.get? a=some (kC es ep t)) (hf:t.fits es.size=true)
  (h:Q (!w.params.followText "set-order" && (!t.plain&&decide (es.size>1))) s):wpAny (model prog w) A (setDrawn a) Q E s:=by
 unfold setDrawn setsByText
 refine wpAny_bind (wpAny_setState_of hS rfl hf ?_)
 refine wpAny_bind (wpAny_bind (wpAny_askSetting (wpAny_pure ?_)))
 exact wpAny_pure h
theorem tX {α β:Type} {f:α->Option β} (l:List α):∀(i:Nat),(∀x∈l,(f x).isSome=true)->(l.filterMap f)[i]? = l[i]?.bind f:=by
 induction l with
 | nil=>exact fun _ _=>rfl
 | cons a l ih =>
  intro i h
  obtain ⟨b,hb⟩:=Option.isSome_iff_exists.mp (h a List.mem_cons_self)
  rw [List.filterMap_cons_some hb]
  cases i with
  | zero=>exact hb.symm
  | succ i=>exact ih i fun x hx=>h x (List.mem_cons_of_mem _ hx)
noncomputable def I9 (prog:Program) (w:World) (A:Around) (a:Addr) (lo:Nat) (h:Heap) (I:Addr) (n:Nat) (ks:List Int):Prop:=
 ∃(fp:List Addr) (P:Nat->Value->Prop) (St:Nat->Heap->Prop) (vals:List (Int×Value)),Walks prog w A I fp [I] n P St/\St 0 h/\(∀b∈fp,b<h.objs.size/\(b=a\/lo<=b))/\I∈fp /\
  vals.length=n/\(vals.map keyI).Perm ks/\ElemsOf (intKind prog w) vals/\∀i v,P i v->∃e,vals[i]? = some e/\v=e.2
theorem EV {a:Addr} {ks:List Int} {Q:Value->Shared->Prop} {A':Around} (hh:A'.handled=none) (hX:SetX prog w s.heap a ks)
  (h:∀h' d I,(∀b o,s.heap.get? b=some o->h'.get? b=some o)->s.heap.objs.size<=I->I<h'.objs.size->I9 prog w A' a s.heap.objs.size h' I ks.length ks->Q (.ref I) { s with heap:=h',drawn:=d }) :
  wpAny (model prog w) A (pyIter (.ref a)) Q E s:=by
 revert prog w A E s a ks Q A';refine no_implicit_lambda%(hK9 ?_);generalize (HK9 _).1=prog,(HK9 _).2.1=w,(HK9 _).2.2.1=A,(HK9 _).2.2.2.1=E,(HK9 _).2.2.2.2.1=s,(HK9 _).2.2.2.2.2.1=a,(HK9 _).2.2.2.2.2.2.1=ks,(HK9 _).2.2.2.2.2.2.2.1=Q,(HK9 _).2.2.2.2.2.2.2.2=A';intro hh hX h
 obtain ⟨es,ep,t,hS,hel,hp,hb,hf,ht⟩:=hX
 revert es ep t;refine no_implicit_lambda%(hK3 ?_);generalize (HK3 _).1=es,(HK3 _).2.1=ep,(HK3 _).2.2=t;intro hS hel hp hb hf ht
 have hlen:es.size=ks.length:=by rw [←Array.length_toList,←hp.length_eq,List.length_map]
 have hT:s.TypeIs (.ref a) "set":=⟨_,hS,rfl⟩
 have ha:a<s.heap.objs.size:=Heap.lt_size hS
 refine wpAny_pyIter_slot hT F.slot_set_iter (wpAny_call_entry F.slot_set_iter hT rT ?_ (F.args_set_iter_1 _))
 unfold Builtin.«frozenset.__iter__» Builtin.Frozenset.slot0 Builtin.Frozenset.addrOf
 refine wpAny_bind (wpAny_bind (m:=slotArgs _ _ _) (wpAny_pure (wpAny_pure ?_)))
 unfold Builtin.Frozenset.sizeOf
 refine wpAny_bind (wpAny_bind (wpAny_setEntries_of hS rfl hf (wpAny_pure ?_)))
 refine wpAny_bind (wC hS hf ?_)
 cases hdr:(!w.params.followText "set-order" && (!t.plain&&decide (es.size>1))) with
 | false =>
  rw [if_neg (by decide)]
  refine wpAny_bind (wpAny_pure ?_)
  refine wpAny_bind (wpAny_setEpoch_of hS rfl hf ?_)
  unfold newFields
  refine wpAny_bind (wpAny_newObj_type ?_)
  refine wpAny_pure ⟨_,rfl,"set_iterator",_,⟨_,Heap.get?_push_size _ rfl,rfl⟩,eE.lookup,?_⟩
  have hne:a≠s.heap.objs.size:=Nat.ne_of_lt ha
  have hk:∀b o,s.heap.get? b=some o->(s.heap.push (g4 (rawInt (0:Nat)) 0 (.ref a) es.size ep)).get? b=some o:=fun b o e=>Heap.get?_push_of_some _ e
  have hI:(s.heap.push (g4 (rawInt (0:Nat)) 0 (.ref a) es.size ep)).get? s.heap.objs.size=some (g4 (rawInt (0:Nat)) 0 (.ref a) es.size ep):=Heap.get?_push_size _ rfl
  have hsz:(s.heap.push (g4 (rawInt (0:Nat)) 0 (.ref a) es.size ep)).objs.size=s.heap.objs.size+1:=Heap.size_push ..
  refine h (s.heap.push (g4 (rawInt (0:Nat)) 0 (.ref a) es.size ep)) s.drawn s.heap.objs.size hk (Nat.le_refl _) (by rw [hsz]; exact Nat.lt_succ_self _) ?_
  rw [←hlen]
  cases hbt:w.params.followText "set-order" with
  | true =>
   refine ⟨_,_,_,(pickOrder (w.params.setOrder a ep) es).toList,y5 hh s.heap.objs.size a hne hf hbt,⟨hI,hk a _ hS⟩,fun b hb=>?_,List.mem_cons_self,by rw [(kF _ es).length_eq,Array.length_toList],((kF _ es).map keyI).trans hp,hel.perm (kF _ es),fun i v ⟨e,h1,h2⟩=>⟨e,by rw [Array.getElem?_toList]; exact h1,h2⟩⟩
   rw [hsz]
   rcases List.mem_cons.mp hb with rfl|hb
   ·exact ⟨Nat.lt_succ_self _,.inr (Nat.le_refl _)⟩
   ·rw [List.mem_singleton.mp hb]; exact ⟨Nat.lt_succ_of_lt ha,.inl rfl⟩
  | false =>
   rw [hbt] at hdr
   have hd:(!t.plain&&decide (es.size>1))=false:=hdr
   refine ⟨_,_,_,es.toList,vO hh s.heap.objs.size a hne hf ht hbt hd,⟨hI,hk a _ hS⟩,fun b hb=>?_,List.mem_cons_self,Array.length_toList,hp,hel,fun i v ⟨e,h1,h2⟩=>⟨e,by rw [Array.getElem?_toList]; exact h1,h2⟩⟩
   rw [hsz]
   rcases List.mem_cons.mp hb with rfl|hb
   ·exact ⟨Nat.lt_succ_self _,.inr (Nat.le_refl _)⟩
   ·rw [List.mem_singleton.mp hb]; exact ⟨Nat.lt_succ_of_lt ha,.inl rfl⟩
 | true =>
  rw [if_pos rfl]
  refine wpAny_bind ?_
  refine uA es.size (List.range es.size) s _ (by rw [List.length_range]; exact Nat.le_refl _) fun pl d hpl=>?_
  revert pl d;refine no_implicit_lambda%(hK2 ?_);generalize (HK2 _).1=pl,(HK2 _).2=d;intro hpl
  refine wpAny_bind ?_
  have hz:pl.length=es.size:=by rw [hpl.length_eq,List.length_range]
  have hpsz:pl.length<=4096:=by rw [hz]; unfold scanBound at hb; lia
  unfold newTuple
  refine wpAny_newObj_type ?_ (by show (pl.map fun (i:Nat)=>rawInt i).toArray.size<=sizeLine; rw [List.size_toArray,List.length_map,sizeLine_eq]; lia)
  have hS':(s.heap.push (BO pl)).get? a=some (kC es ep t):=Heap.get?_push_of_some _ hS
  refine wpAny_bind (wpAny_setEpoch_of (s:={ s with heap:=s.heap.push (BO pl),drawn:=d }) hS' rfl hf ?_)
  unfold newFields
  refine wpAny_bind (wpAny_newObj_type ?_)
  refine wpAny_pure ⟨_,rfl,"set_iterator",_,⟨_,Heap.get?_push_size _ rfl,rfl⟩,eE.lookup,?_⟩
  have hs1:(s.heap.push (BO pl)).objs.size=s.heap.objs.size+1:=Heap.size_push ..
  have hk:∀b o,s.heap.get? b=some o->((s.heap.push (BO pl)).push (g4 (.ref s.heap.objs.size) 0 (.ref a) es.size ep)).get? b=some o:=fun b o e=>Heap.get?_push_of_some _ (Heap.get?_push_of_some _ e)
  have hI:((s.heap.push (BO pl)).push (g4 (.ref s.heap.objs.size) 0 (.ref a) es.size ep)).get? (s.heap.push (BO pl)).objs.size=some (g4 (.ref s.heap.objs.size) 0 (.ref a) es.size ep):=Heap.get?_push_size _ rfl
  have hu:((s.heap.push (BO pl)).push (g4 (.ref s.heap.objs.size) 0 (.ref a) es.size ep)).get? s.heap.objs.size=some (BO pl):=Heap.get?_push_of_some _ (Heap.get?_push_size _ rfl)
  have hsz:((s.heap.push (BO pl)).push (g4 (.ref s.heap.objs.size) 0 (.ref a) es.size ep)).objs.size=s.heap.objs.size+2:=by rw [Heap.size_push,hs1]
  have hsome:∀x∈pl,(es[x]?).isSome=true:=fun x hx=>by
   have:x<es.size:=List.mem_range.mp (hpl.mem_iff.mp hx)
   rw [Array.getElem?_eq_getElem this]; rfl
  have hperm:(pl.filterMap fun i=>es[i]?).Perm es.toList:=(hpl.filterMap _).trans (by rw [filterMap_getElem?_range])
  refine h ((s.heap.push (BO pl)).push (g4 (.ref s.heap.objs.size) 0 (.ref a) es.size ep)) d (s.heap.push (BO pl)).objs.size hk (by rw [hs1]; exact Nat.le_succ _) (by rw [hsz,hs1]; exact Nat.lt_succ_self _) ?_
  rw [←hlen]
  refine ⟨_,_,_,pl.filterMap fun i=>es[i]?,x6 hh (s.heap.push (BO pl)).objs.size a s.heap.objs.size (by rw [hs1]; exact Nat.ne_of_lt (Nat.lt_succ_of_lt ha)) (by rw [hs1]; exact Nat.ne_of_lt (Nat.lt_succ_self _)) hf hpl,⟨hI,hk a _ hS,hu⟩,fun b hb=>?_,List.mem_cons_self,by rw [hperm.length_eq,Array.length_toList],(hperm.map keyI).trans hp,hel.perm hperm,fun i v ⟨e,h1,h2⟩=>⟨e,by rw [tX pl i hsome]; exact h1,h2⟩⟩
  rw [hsz]
  rcases List.mem_cons.mp hb with rfl|hb
  ·rw [hs1]; exact ⟨Nat.lt_succ_self _,.inr (Nat.le_succ _)⟩
  ·rcases List.mem_cons.mp hb with rfl|hb
   ·exact ⟨Nat.lt_succ_of_lt (Nat.lt_succ_of_lt ha),.inl rfl⟩
   ·rw [List.mem_singleton.mp hb]; exact ⟨Nat.lt_succ_of_lt (Nat.lt_succ_self _),.inr (Nat.le_refl _)⟩
theorem G1 {a:Addr} (hT:s.TypeIs (.ref a) "set") {Q:Bool->Shared->Prop} (h:Q false s):wpAny (model prog w) A (Builtin.List.listLengthHint (.ref a)) Q E s:=by
 revert hT h;revert prog w A E s a Q;refine no_implicit_lambda%(hK7 ?_);generalize (HK7 _).1=prog,(HK7 _).2.1=w,(HK7 _).2.2.1=A,(HK7 _).2.2.2.1=E,(HK7 _).2.2.2.2.1=s,(HK7 _).2.2.2.2.2.1=a,(HK7 _).2.2.2.2.2.2=Q;intro hT h
 unfold Builtin.List.listLengthHint
 refine wpAny_bind (wpAny_specialOf hT F.slot_set_len.lookup ?_)
 generalize hid:("set.__len__":String)=id0
 wp_delta
 rw [show splitId id0=some ("set","__len__") from by subst hid; decide +kernel]
 subst hid
 refine wpAny_bind (wpAny_isInstance (T:="set") (b:=true) hT (by rw [isSubtype_type]; kernel_rfl) ?_)
 refine wpAny_ite_split (fun hab=>absurd hab (by decide)) (fun _=>?_)
 refine wpAny_ite_split (fun _=>?_) (fun hab=>absurd (by decide +kernel) hab)
 refine wpAny_bind (wpAny_typeOf hT ?_)
 exact wpAny_pure h
end
end
section
theorem rG {prog:Program} {w:World}:∀ {vs:List Value} {vals:List (Int×Value)},vs.length=vals.length->(∀(j:Nat) v,vs[j]? = some v->∃e,vals[j]? = some e/\v=e.2)->ElemsOf (intKind prog w) vals->IntsAre vs (vals.map keyI)
 | [],[],_,_,_=>.nil
 | [],_::_,h,_,_=>by simp at h
 | _::_,[],h,_,_=>by simp at h
 | v::vs,e::vals,h,hh,hel=>by
  obtain ⟨e',h1,h2⟩:=hh 0 v rfl
  have h1:e=e':=by simpa using h1
  subst h1
  obtain ⟨⟨k,hk,_⟩,_⟩:=hel e List.mem_cons_self
  have hkey:=vL hk e.1
  obtain ⟨t,e2⟩:=Value.isInt_shape hk
  have hkey:keyI e=k:=hkey
  rw [List.map_cons,hkey,h2,e2]
  exact .cons k t (rG (prog:=prog) (w:=w) (by simpa using h) (fun j u hu=>by
   obtain ⟨e3,q1,q2⟩:=hh (j+1) u (by simpa using hu)
   exact ⟨e3,by simpa using q1,q2⟩) fun x hx=>hel x (List.mem_cons_of_mem _ hx))
section
variable {prog:Program} {w:World} {A:Around} {E:Value->Shared->Prop} {s:Shared}
theorem vQ {a:Addr} {ks:List Int} {Q:List Value->Shared->Prop} (hh:A.handled=none) (hX:SetX prog w s.heap a ks) (hn:ks.length<=1000)
  (h:∀h' tk d (vs:List Value) ns,(∀b o,s.heap.get? b=some o->h'.get? b=some o)->IntsAre vs ns->ns.Perm ks->Q vs { s with heap:=h',toks:=tk,drawn:=d }) :
  wpAny (model prog w) A (collect (.ref a)) Q E s:=by
 revert prog w A E s a ks Q;refine no_implicit_lambda%(hK8 ?_);generalize (HK8 _).1=prog,(HK8 _).2.1=w,(HK8 _).2.2.1=A,(HK8 _).2.2.2.1=E,(HK8 _).2.2.2.2.1=s,(HK8 _).2.2.2.2.2.1=a,(HK8 _).2.2.2.2.2.2.1=ks,(HK8 _).2.2.2.2.2.2.2=Q;intro hh hX hn h
 have ha:a<s.heap.objs.size:=by
  obtain ⟨_,_,_,hq⟩:=hX; have e:=hq.1
  exact Heap.lt_size e
 unfold collect
 refine wpAny_bind (wpAny_runValue (codeAny_builtin F.entry_proto_collect ?_))
 rw [Around.under_plainId F.plain_proto_collect _]
 show wpAny _ A.in1 (newList []>>=fun l=>again (.builtin "list.__iadd__" ⟨[l,.ref a],[]⟩)) _ _ s
 refine wpAny_bind (wpAny_newObj_type ?_)
 refine wpAny_pure ⟨plainId_quiet F.plain_list_iadd _,codeAny_builtin F.entry_list_iadd ?_⟩
 rw [Around.under_plainId F.plain_list_iadd _]
 have hL:(s.heap.push { cls:=.type "list",data:=.seq ([]:List Value).toArray }).get? s.heap.objs.size=some { cls:=.type "list",data:=.seq #[] }:=Heap.get?_push_size _ rfl
 have hX1:SetX prog w (s.heap.push { cls:=.type "list",data:=.seq ([]:List Value).toArray }) a ks:=by
  obtain ⟨es,ep,t,hq⟩:=hX; have e:=hq.1; have r:=hq.2
  exact ⟨es,ep,t,Heap.get?_push_of_some _ e,r⟩
 have hT1:Shared.TypeIs { s with heap:=s.heap.push { cls:=.type "list",data:=.seq ([]:List Value).toArray } } (.ref a) "set":=by
  obtain ⟨es,ep,t,hq⟩:=hX1; have e:=hq.1; have r:=hq.2
  exact ⟨_,e,rfl⟩
 have hsz1:(s.heap.push { cls:=.type "list",data:=.seq ([]:List Value).toArray }).objs.size=s.heap.objs.size+1:=Heap.size_push ..
 have hk1:∀b o,s.heap.get? b=some o->(s.heap.push { cls:=.type "list",data:=.seq ([]:List Value).toArray }).get? b=some o:=fun b o e=>Heap.get?_push_of_some _ e
 generalize hH:s.heap.push { cls:=.type "list",data:=.seq ([]:List Value).toArray }=H at hL hX1 hT1 hsz1 hk1 ⊢
 show wpAny _ A.in1 (Builtin.List.listExtendWith (.ref s.heap.objs.size) (.ref a) (.ref s.heap.objs.size)) _ _ _
 have hne:s.heap.objs.size≠a:=Ne.symm (Nat.ne_of_lt ha)
 have h1:Builtin.List.listSameRef (.ref s.heap.objs.size) (.ref a)=false:=by simp [Builtin.List.listSameRef,hne]
 unfold Builtin.List.listExtendWith
 refine wpAny_bind (wpAny_typeOf hT1 ?_)
 refine wpAny_ite_false (decide_eq_false (by rw [h1]; decide)) ?_
 refine wpAny_bind (EV (A':=A.in1) hh hX1 fun h' d I hk hI1 hI2 hW=>?_)
 obtain ⟨fp,P,St,vals,Wk,st0,hfp,hIfp,hlen,hperm,hel,hP⟩:=hW
 have hT2:Shared.TypeIs { s with heap:=h',drawn:=d } (.ref a) "set":=by
  obtain ⟨es,ep,t,e,r⟩:=hX1
  exact ⟨_,hk _ _ e,rfl⟩
 have hL2:=hk _ _ hL
 have hI1':s.heap.objs.size+1<=I:=by rw [←hsz1]; exact hI1
 have hSf:s.heap.objs.size∉fp:=fun hm=>by
  rcases (hfp _ hm).2 with e|e
  ·exact hne e
  ·have e:H.objs.size<=s.heap.objs.size:=e
   rw [hsz1] at e
   exact absurd e (Nat.not_succ_le_self _)
 refine wpAny_bind (wpAny_holding (G1 hT2 ?_))
 have key:∀(hM:Heap) (c:Nat) (tk:Nat),(∀b o,b≠s.heap.objs.size->h'.get? b=some o->hM.get? b=some o)->hM.get? s.heap.objs.size=some { cls:=.type "list",dict:=none,data:=.seq #[] c,slots:=#[] } ->
   codeAny (model prog w) A (.builtin "list.extend.loop" ⟨[.ref s.heap.objs.size,.ref I,.ref s.heap.objs.size],[]⟩) (fun q s'=>∃(h2:Heap) (tk2:Nat) (acc:Array Value) (c2:Nat),q=.ok (.ret (.ref s.heap.objs.size))/\s'={ s with heap:=h2,toks:=tk2,drawn:=d }/\h2.get? s.heap.objs.size=some { cls:=.type "list",dict:=none,data:=.seq acc c2,slots:=#[] } /\
    (∀b o,s.heap.get? b=some o->h2.get? b=some o)/\IntsAre acc.toList (vals.map keyI)) { s with heap:=hM,drawn:=d,toks:=tk }:=by
  intro hM c tk hkk hS3
  have st1:St 0 hM:=Wk.frame 0 _ _ st0 fun b hb o e=>hkk b o (fun z=>hSf (z▸hb)) e
  refine codeAny_extend_loopS Wk.toS (by rw [sizeLine_eq]; lia) s.heap.objs.size hSf (.ref s.heap.objs.size) ks.length 0 _ #[] c rfl (Nat.zero_le _) st1 hS3 (ItemsOf.nil _) fun s' acc' c' hm hS' hacc=>?_
  obtain ⟨h2,g2,d2,tk2,os2⟩:=s'
  have eg:g2=s.gens:=hm.gens
  have ed:d2=d:=hm.drawn
  have eo:os2=s.os:=hm.os
  subst eg; subst ed; subst eo
  refine ⟨h2,tk2,acc',c',rfl,rfl,hS',fun b o e=>?_,rG (prog:=prog) (w:=w) (by rw [Array.length_toList,hacc.1,hlen]) (fun j v hj=>hP j v (hacc.2 j v (by rw [←Array.getElem?_toList]; exact hj))) hel⟩
  have hbs:b≠s.heap.objs.size:=Nat.ne_of_lt (Heap.lt_size e)
  refine hm.heap b o (fun hmem=>?_) (hkk b o hbs (hk b o (hk1 b o e)))
  rcases List.mem_cons.mp hmem with e1|hmem
  ·exact hbs e1
  ·have e2:b=I:=List.mem_singleton.mp hmem
   have:b<I:=Nat.lt_of_lt_of_le (Nat.lt_succ_of_lt (Heap.lt_size e)) hI1'
   exact absurd e2 (Nat.ne_of_lt this)
 have fin:∀(c:Code) (s₁:Shared),codeAny (model prog w) A c (fun q s'=>∃(h2:Heap) (tk2:Nat) (acc:Array Value) (c2:Nat),q=.ok (.ret (.ref s.heap.objs.size))/\s'={ s with heap:=h2,toks:=tk2,drawn:=d }/\h2.get? s.heap.objs.size=some { cls:=.type "list",dict:=none,data:=.seq acc c2,slots:=#[] } /\
    (∀b o,s.heap.get? b=some o->h2.get? b=some o)/\IntsAre acc.toList (vals.map keyI)) s₁->∀ {R:Result->Shared->Prop},(∀h2 tk2 (acc:Array Value) c2,h2.get? s.heap.objs.size=some { cls:=.type "list",dict:=none,data:=.seq acc c2,slots:=#[] }->(∀b o,s.heap.get? b=some o->h2.get? b=some o)->IntsAre acc.toList (vals.map keyI)->R (.ok (.ret (.ref s.heap.objs.size))) { s with heap:=h2,toks:=tk2,drawn:=d })->codeAny (model prog w) A c R s₁:=fun c s₁ hc R hR =>
  codeAny_mono hc fun q s' ⟨h2,tk2,acc,c2,e1,e2,q1,q2,q3⟩=>by subst e1; subst e2; exact hR _ _ _ _ q1 q2 q3
 have done:∀h2 tk2 (acc:Array Value) c2,h2.get? s.heap.objs.size=some { cls:=.type "list",dict:=none,data:=.seq acc c2,slots:=#[] }->(∀b o,s.heap.get? b=some o->h2.get? b=some o)->IntsAre acc.toList (vals.map keyI)->wpAny (model prog w) A (do
   let o←load s.heap.objs.size
   match o.data with
   | .seq xs _=>pure xs.toList
   | _=>unsupported "internal:collect") Q E { s with heap:=h2,toks:=tk2,drawn:=d }:=fun h2 tk2 acc c2 q1 q2 q3 =>
  wpAny_bind (wpAny_load q1 (wpAny_pure (h h2 tk2 d acc.toList _ q2 q3 hperm)))
 refine wpAny_ite_split (fun _=>?_) (fun _=>wpAny_pure ⟨plainId_quiet F.plain_extend_loop _,fin _ _ (key h' 0 s.toks (fun b o _ e=>e) hL2) fun h2 tk2 acc c2 q1 q2 q3=>done h2 tk2 acc c2 q1 q2 q3⟩)
 refine wpAny_bind (wpAny_rule ?_)
 refine wpAny_bind ?_
 refine wpAny_bind (wpAny_updateSeq hL2 rfl ?_)
 have hS4:=Heap.get?_update_self (Obj.mapSeq (·.push Value.none)) hL2 rfl
 refine wpAny_updateSeq (hz:=by seq_fits) hS4 rfl ?_
 have hS5:=Heap.get?_update_self (Obj.mapSeq (·.pop)) hS4 rfl
 refine wpAny_pure ⟨plainId_quiet F.plain_extend_loop _,fin _ _ (key _ _ s.toks (fun b o hb e=>?_) hS5) fun h2 tk2 acc c2 q1 q2 q3=>done h2 tk2 acc c2 q1 q2 q3⟩
 exact (Heap.get?_update_other _ _ (Ne.symm hb)).trans ((Heap.get?_update_other _ _ (Ne.symm hb)).trans e)
end
end
section
variable {W:Wd} {C:Cx} {n:Nat} {ρ ρ' ρ'':aW} {P:Fl->aW->Prop}
theorem q9:∀ {l m:List Int},l.Perm m->l.Pairwise (· <= ·)->m.Pairwise (· <= ·)->l=m
 | [],m,h,_,_=>(List.nil_perm.mp h).symm
 | a::l,[],h,_,_=>by have:=h.length_eq; simp at this
 | a::l,b::m,h,h1,h2=>by
  rw [List.pairwise_cons] at h1 h2
  have e:a=b:=by
   have ha:a∈b::m:=h.mem_iff.mp List.mem_cons_self
   have hb:b∈a::l:=h.mem_iff.mpr List.mem_cons_self
   rcases List.mem_cons.mp ha with e|ha
   ·exact e
   ·rcases List.mem_cons.mp hb with e|hb
    ·exact e.symm
    ·have q1:=h1.1 b hb
     have q2:=h2.1 a ha
     lia
  subst e
  rw [q9 (List.Perm.cons_inv h) h1.2 h2.2]
noncomputable def gL (l:List Int):List Int:=l.foldl step_dedup []
theorem EM (l:List Int):(List.range l.length).map (fun i=>l.getD i 0)=l:=by
 apply List.ext_getElem
 ·simp
 ·intro i h1 h2
  rw [List.getElem_map,List.getElem_range,List.getD_eq_getElem?_getD,List.getElem?_eq_getElem h2]
  rfl
theorem mU (l:List Int):firstMet (fun i=>l.getD i 0) l.length=gL l:=by
 unfold firstMet gL
 rw [EM]
theorem DS (l:List Int):(gL l).length<=l.length:=by
 rw [←mU]
 exact firstMet_length_le _ _
theorem H8 {g:Gh} {l:List Int}:∀ {vs:List Value},DatAll g vs (l.map .int)->IntsAre vs l:=by
 induction l with
 | nil=>exact fun hv=>K6 .nil hv
 | cons i l ih=>exact fun hv=>xU (M:=fun vs=>IntsAre vs (i::l)) (fun v vs h r=>cA (M:=fun v=>IntsAre (v::vs) (i::l)) (fun t=>.cons i t (ih r)) h) hv
theorem wV {g:Gh} {vs:List Value} {l:List Int} (h:IntsAre vs l):DatAll g vs (l.map .int):=by
 induction h with
 | nil=>exact .nil
 | cons i t r ih=>exact .cons (.int i t) ih
section
variable {prog:Program} {w:World} {A:Around} {E:Value->Shared->Prop} {s:Shared}
theorem zQ {a:Addr} {ks:List Int} {Q:Value->Shared->Prop} (hh:A.handled=none) (hX:SetX prog w s.heap a ks) (hn:ks.length<64)
  (h:∀h' tk d D (out:Array Value) e ns',(∀b o,s.heap.get? b=some o->h'.get? b=some o)->s.heap.get? D=none->h'.get? D=some (seqObj "list" out e)->IntsAre out.toList ns'->ns'.Perm ks->ns'.Pairwise (· <= ·)->Q (.ref D) { s with heap:=h',toks:=tk,drawn:=d }) :
  wpAny (model prog w) A (call (.builtin "sorted") [.ref a]) Q E s:=by
 refine Calls.call_function_entry kind_sorted plain_sorted entry_sorted (args_sorted1 _) ?_
 unfold Builtin.«sorted»
 refine wpAny_bind (m:=checkCount "sorted" 1 1 _) (wpAny_pure ?_)
 refine wpAny_bind (vQ hh hX (by lia) fun h' tk d vs ns hk hI hp=>?_)
 have hlen:vs.length=ks.length:=by rw [IntsAre.length hI,hp.length_eq]
 refine wpAny_bind (wpAny_newList ?_ (by rw [sizeLine_eq]; lia))
 have hoL:(h'.push (seqObj "list" vs.toArray 0)).get? h'.objs.size=some (seqObj "list" vs.toArray 0):=Heap.get?_push_size _ rfl
 refine wpAny_bind (wpAny_holding (wpAny_call_entry slot_list_sort ⟨_,hoL,rfl⟩ entry_list_sort (list_sort_tree hoL hI (by lia) fun out ns' a1 a2 a3=>⟨_,rfl,?_⟩) (args_list_sort _)))
 obtain ⟨e,he⟩:=sortedHeap_at (out:=out) hoL
 refine wpAny_pure ⟨_,rfl,h _ tk d h'.objs.size out e ns' (fun b o q=>?_) ?_ he a1 (a2.trans hp) a3⟩
 ·have q':=hk b o q
  have hlt:b<h'.objs.size:=Heap.lt_size q'
  rw [sortedHeap_old (Nat.ne_of_lt hlt) (by rw [Heap.size_push]; exact Nat.lt_succ_of_lt hlt)]
  exact Heap.get?_push_of_some _ q'
 ·cases q:s.heap.get? h'.objs.size with
  | none=>rfl
  | some o=>exact absurd (Heap.lt_size (hk _ _ q)) (Nat.lt_irrefl _)
end
theorem rY {x:Str} {p p2 p3 pos pos2:Pos} {l srt:List Int} (G:Glb W) (hks:C.env.kindOf "sorted" = some .globalImplicit) (hkt:C.env.kindOf "set" = some .globalImplicit) (hx:Has ρ x (.val (aG l))) (hl:l.length<=60) (hp:(gL l).Perm srt) (hs:srt.Pairwise (· <= ·))
  (hd:autoParam ((x==("__debug__":Str))=false) Mine.aC._auto_1) :
  Ev W C n ρ (.Call (.Name "sorted" p) [.Call (.Name "set" p2) [.Name x p3] [] pos2] [] pos) (aG srt):=fun A s g E R S=>by
 refine wpAny_Call_NameR (cY S G.sorted.1 G.sorted.2 hks (rfl) ?_)
 have q:wpAny (model W.prog W.w) A (spliced (backTo pos (starEach [.Call (.Name "set" p2) [.Name x p3] [] pos2] C.env))) (fun vs s'=>∃a,vs=[.ref a]/\(∃g₁,Ext W s g s' g₁)/\SetX W.prog W.w s'.heap a (gL l)) E s:=by
  rw [show starEach [.Call (.Name "set" p2) [.Name x p3] [] pos2] C.env=[(false,eval (.Call (.Name "set" p2) [.Name x p3] [] pos2) C.env)] from rfl]
  refine spliced_cons (wpAny_mono (?_:wpAny (model W.prog W.w) A (eval (.Call (.Name "set" p2) [.Name x p3] [] pos2) C.env) (fun v s'=>∃a,v=.ref a/\(∃g₁,Ext W s g s' g₁)/\SetX W.prog W.w s'.heap a (gL l)) E s) (fun v s₁ ⟨a,e,hx,hX⟩=>spliced_nil ⟨a,by rw [e],hx,hX⟩) fun _ _ e=>e)
  refine wpAny_Call_NameR (cY S G.set.1 G.set.2 hkt (rfl) ?_)
  have q0:w6 W C n ρ [.Name x p3] [aG l]:=aA (aC hx hd) aD
  have q:=q0 A s g E pos2 R S
  refine PySem.callWith_type rfl (evalArgs_plain (wpAny_mono q (fun vs s₁ ⟨g₁,x₁,hM⟩=>?_) fun _ _ e=>e))
  have B₁:=(S.step x₁).base
  refine qK (fun v h1=>?_) hM
  refine cR (fun a us k m r=>?_) h1
  ··have hlen:us.length=l.length:=by rw [r.length,List.length_map]
    have hI:IntsAre us.toArray.toList l:=H8 r
    refine zS R.handled (cK B₁ m) hI (by rw [List.size_toArray,hlen]; unfold scanBound; lia) fun h' tk hX hk=>?_
    have e5:us.toArray.size=l.length:=by rw [List.size_toArray]; exact hlen
    rw [e5,mU] at hX
    exact ⟨_,rfl,⟨g₁,x₁.trans (Ext.of_keeps (tk:=tk) B₁.gok fun b o e=>hk b o (Heap.lt_size e) e)⟩,hX⟩
 refine callWith_builtin rfl (evalArgs_plain (wpAny_mono q (fun vs s₁ ⟨a,e,⟨g₁,x₁⟩,hX⟩=>?_) fun _ _ e=>e))
 subst e
 have hdl:=DS l
 refine zQ R.handled hX (by lia) fun h' tk d D out e ns' hk hD hO hI hp' hs'=>?_
 have B₁:=(S.step x₁).base
 have e1:ns'=srt:=q9 (hp'.trans hp) hs' hs
 subst e1
 have x₂:Ext W s₁ g₁ { s₁ with heap:=h',toks:=tk } ((D,seqObj "list" out e)::g₁):=Ext.of_new (tk:=tk) [(D,seqObj "list" out e)] B₁ hk fun p hp=>by
  rw [List.mem_singleton.mp hp]
  exact ⟨hO,hD⟩
 have x₃:Ext W s₁ g₁ { s₁ with heap:=h',toks:=tk,drawn:=d } ((D,seqObj "list" out e)::g₁):=⟨x₂.keep,x₂.old,x₂.sub,x₂.ok,x₂.new,x₂.os,x₂.bare,x₂.tabs⟩
 refine ⟨_,x₁.trans x₃,?_⟩
 have:out=out.toList.toArray:=by simp
 rw [this]
 exact .list List.mem_cons_self (wV hI)
theorem JU (hC:C.env.scope=aR (aT 22)) (G:Glb W) {sc ce k or y ho x pa li to st cr l sy wi th ap fi la:Option Bd} {aL bL frL enL:List Int} (ha:aL.length=5) (hb:bL.length=5) (h1:(gL aL).Perm frL) (h2:frL.Pairwise (· <= ·)) (h3:(gL bL).Perm enL) (h4:enL.Pairwise (· <= ·)) {rest:List Stmt}
  (hr:cD W C n (lw sc ce k or (some (.val (aG aL))) (some (.val (aG bL))) y ho x pa li to st cr l sy wi th ap fi la (some (.val (aG frL))) (some (.val (aG enL)))) rest P) :
  cD W C n (lw sc ce k or (some (.val (aG aL))) (some (.val (aG bL))) y ho x pa li to st cr l sy wi th ap fi la none none) (st22 21::st22 22::rest) P:=by
 have ks:C.env.kindOf "sorted" = some .globalImplicit:=aE hC (by kernel_rfl)
 have kt:C.env.kindOf "set" = some .globalImplicit:=aE hC (by kernel_rfl)
 refine aI (ρ':=lw sc ce k or (some (.val (aG aL))) (some (.val (aG bL))) y ho x pa li to st cr l sy wi th ap fi la (some (.val (aG frL))) none) (aY (rY G ks kt (by exact aB 4 rfl) (by lia) h1 h2) (by exact aF 21 rfl rfl)) ?_
 exact aI (aY (rY G ks kt (by exact aB 5 rfl) (by lia) h3 h4) (by exact aF 22 rfl rfl)) hr
end
section
variable {W:Wd} {C:Cx} {n:Nat} {ρ ρ' ρ'':aW} {P:Fl->aW->Prop}
theorem rR (k:Nat) (m m':List Nat):g6 (k+1) (namesL m) (namesL m')=true:=by
 have hb:∀l l':List (Array UInt8),g6 (k+1) (l.map .bytes) (l'.map .bytes)=true:=by
  intro l
  induction l with
  | nil=>intro l'; cases l'<;>rfl
  | cons a l ih =>
   intro l'
   cases l' with
   | nil=>rfl
   | cons b l' =>
    show (true&&g6 (k+1) (l.map .bytes) (l'.map .bytes))=true
    rw [ih l']
    rfl
 have e:∀m,namesL m=((flagB::(m.map lP))++[flagB]).map .bytes:=by
  intro m
  unfold namesL
  rw [List.map_append,List.map_cons,List.map_map]
  rfl
 rw [e,e]
 exact hb _ _
theorem z5:∀l l':List (List Nat),g6 7 (l.map fun m=>.tuple (namesL m)) (l'.map fun m=>.tuple (namesL m))=true
 | [],l'=>by cases l'<;>rfl
 | a::l,[]=>rfl
 | a::l,b::l'=>by
  show (g6 6 (namesL a) (namesL b)&&g6 7 (l.map fun m=>.tuple (namesL m)) (l'.map fun m=>.tuple (namesL m)))=true
  rw [z5 l l',rR 5]
  rfl
structure LawB (W:Wd) (n:Nat) (fRd fC:Addr) (aL bL:List Int) (hostOf:Nat->List Str) (told:Nat->Nat->Bool) (ls:List (List Nat)) (frL enL:List Int) (fI eI:Nat->Nat):Prop where
 read:Fn W n fRd [cC (hostsOf hostOf),gG (dD told)] (BG ls)
 comp:Fn W n fC [aG aL,aG bL] (BG ls)
 lz:ls.length<=100
 lm:∀m∈ls,∀z∈m,z<5
 stay:∀y,y<5->eC ls y≠[]
 wi:(pI ls).isEmpty=(dP aL bL 5).isEmpty
 f1:(gL aL).Perm frL
 f2:frL.Pairwise (· <= ·)
 e1:(gL bL).Perm enL
 e2:enL.Pairwise (· <= ·)
 fz:frL.length<=100
 len:ls.length=enL.length
 fp:∀y,y<5->PlaceOf frL (aL.getD y 0) (fI y)
 ep:∀y,y<5->PlaceOf enL (bL.getD y 0) (eI y)
 le:∀y,y<5->fI y+eI y<=enL.length
 st:∀y,y<5->natsD (eC ls y)=cG (fI y) 1 (enL.length-eI y-fI y)
structure LawA (W:Wd) (n:Nat) (fO fH fD fRd fC:Addr) (one two:Str) (aL bL:List Int) (hostOf:Nat->List Str) (told:Nat->Nat->Bool):Prop where
 ha:aL.length=5
 hb:bL.length=5
 order:Fn W n fO [.str one,.str two] (.tuple [aG aL,aG bL])
 host:∀y:Nat,y<5->Fn W n fH [aG aL,aG bL,.int y] (aO (hostOf y))
 jo:∀y,y<5->JoinOk "." (hostOf y)=true
 jl:∀y,y<5->(Txt.join "." (hostOf y)).length<=100
 ul:∀y,y<5->(Txt.upper (Txt.join "." (hostOf y))).length<=100
 tell:∀x y,x<5->y<5->Fn W n fD [.str (("Z.":Str)++Txt.upper (Txt.join "." (hostOf x))),.str ((".":Str)++Txt.join "." (hostOf y))] (.bool (told x y))
 sc:(mA told).isEmpty=(iY aL).isEmpty
 hl:∀y,y<5->1<=(hostOf y).length/\(hostOf y).length<=100
 sf:∀x y,x<5->y<5->eJ (aO ((hostOf x).drop ((hostOf x).length-(hostOf y).length))) (aO (hostOf y))=told x y
 more:(iY aL).isEmpty=true->∃ls frL enL fI eI,LawB W n fRd fC aL bL hostOf told ls frL enL fI eI
theorem HR {f fO fR fH fD fRd fC:Addr} (D:DefAt W f (aT 22) ["script"]) (G:Glb W) (NO:FnName W "_law_order" fO) (NR:FnName W "_law_row" fR) (DR:DefAt W fR (aT 16) ["number"]) (NH:FnName W "_law_host" fH) (ND:FnName W "domain_match" fD) (NRd:FnName W "_law_read" fRd) (NC:FnName W "_law_companies" fC)
  {zs:List Int} (hz:zs.length<=63) (H:∀c0 c1,∃aL bL hostOf told,LawA W (n+1) fO fH fD fRd fC (oN c0) (oN c1) aL bL hostOf told):Fn W (n+2) f [aG zs] (.bool true):=by
 refine jY (rest:=["cells","k","order","ahead","behind","y","hosts","x","pairs","lies","told","strange","crossed","lists","stays","within","three","apart","first","last","fronts","ends"]) D (by kernel_rfl) rfl fun C hC hf=>?_
 show cD W C (n+1) (lw (some (.val (aG zs))) none none none none none none none none none none none none none none none none none none none none none none)
  (st22 0::st22 1::st22 2::st22 3::st22 4::st22 5::st22 6::st22 7::st22 8::st22 9::st22 10::st22 11::st22 12::st22 13::st22 14::st22 15::st22 16::st22 17::st22 18::st22 19::st22 20::st22 21::st22 22::st22 23::st22 24::[st22 25]) _
 refine HD hC G hz fun a c0 c1 k=>?_
 obtain ⟨aL,bL,hostOf,told,L⟩:=H c0 c1
 revert W n f fO fR fH fD fRd fC zs C a c0 c1 k aL bL hostOf told;refine no_implicit_lambda%(hK9 ?_);generalize (HK9 _).1=W,(HK9 _).2.1=n,(HK9 _).2.2.1=f,(HK9 _).2.2.2.1=fO,(HK9 _).2.2.2.2.1=fR,(HK9 _).2.2.2.2.2.1=fH,(HK9 _).2.2.2.2.2.2.1=fD,(HK9 _).2.2.2.2.2.2.2.1=fRd,(HK9 _).2.2.2.2.2.2.2.2=fC;intro D G NO NR DR NH ND NRd NC;refine no_implicit_lambda%(hK ?_);generalize HK _=zs;intro hz H;refine no_implicit_lambda%(hK ?_);generalize HK _=C;intro hC hf;refine no_implicit_lambda%(hK8 ?_);generalize (HK8 _).1=a,(HK8 _).2.1=c0,(HK8 _).2.2.1=c1,(HK8 _).2.2.2.1=k,(HK8 _).2.2.2.2.1=aL,(HK8 _).2.2.2.2.2.1=bL,(HK8 _).2.2.2.2.2.2.1=hostOf,(HK8 _).2.2.2.2.2.2.2=told;intro L
 refine GI hC G NO NR DR L.order fun or=>?_
 refine F2 hC G NH L.host ?_
 refine E6 hC G ?_
 refine IC hC G ND L.jo L.jl L.ul L.tell fun x y to=>?_
 refine yQ hC (yK hC L.ha ?_)
 refine IM (by rw [List.isEmpty_map,List.isEmpty_map]; exact L.sc) ?_
 refine JI hC G L.hl L.sf ?_
 refine J4 (fun ρ=>.inl rfl) fun hcr=>?_
 rw [List.isEmpty_map] at hcr
 obtain ⟨ls,frL,enL,fI,eI,M⟩:=L.more hcr
 refine JJ hC NRd M.read ?_
 refine GC hC G M.lz M.lm ?_
 refine IZ M.stay ?_
 refine B8 hC M.lz M.stay ?_
 refine E9 hC G L.ha L.hb fun y x ap fi la=>?_
 refine JH (by rw [List.isEmpty_map,List.isEmpty_map]; exact M.wi) ?_
 refine JU hC G L.ha L.hb M.f1 M.f2 M.e1 M.e2 ?_
 have hlz:=M.lz
 have hen:enL.length<=100:=by rw [←M.len]; exact M.lz
 refine I7 hC G M.len M.lz ?_
 refine CL hC G L.ha L.hb M.fz hen M.lz M.fp M.ep M.le M.st fun y=>?_
 have kc:C.env.kindOf "_law_companies" = some .globalImplicit:=aE hC (by kernel_rfl)
 refine cN (kN (aC (by exact aB 14 rfl)) (bI NC (aA (aC (by exact aB 4 rfl)) (aA (aC (by exact aB 5 rfl)) aD)) M.comp kc) (gV (d:=BG ls) (e:=BG ls) (z5 ls ls))) (.inl ?_)
 rw [cM]
end
end
section
open PySem PySem.W PySem.Calls PyProof.Rows PySem.SeqAt
open Builtin.Str StrLaws
noncomputable abbrev S (l:List Nat):Str:=⟨l.toArray⟩
theorem bQ (l:List Nat):(S l).length=l.length:=List.size_toArray ..
theorem fK (a b:List Nat):S a++S b=S (a++b):=Str.ext' (by
 rw [Str.cps_append]
 simp)
theorem M9 (x:Str):S x.cps.toList=x:=by cases x; rfl
noncomputable def K2 (s y:List Nat) (i:Nat):Bool:=(s.drop i).take y.length==y
theorem pH (s y:List Nat) (i:Nat):subAt (S s) (S y) i=K2 s y i:=by
 unfold subAt K2
 rw [bQ]
 rw [List.extract_toArray]
 rw [List.extract_eq_take_drop,Nat.add_sub_cancel_left]
 simp
noncomputable def sD (P:Nat->Bool) (w limit:Nat):List Nat->Nat->Nat->List Nat
 | [],_,_=>[]
 | i::l,c,f=>if (decide (c<limit)&&(decide (f<=i)&&P i))=true then i::sD P w limit l (c+1) (i+w) else sD P w limit l c f
theorem zA (P:Nat->Bool) (w limit i:Nat) (l:List Nat) (c f:Nat):sD P w limit (i::l) c f=if (decide (c<limit)&&(decide (f<=i)&&P i))=true then i::sD P w limit l (c+1) (i+w) else sD P w limit l c f:=rfl
theorem vN (s sub:Str) (hi limit:Nat):∀(l:List Nat) (st:Array Nat×Nat),(forIn l st (occBody s sub hi limit)).run.fst.toList=st.fst.toList++sD (fun i=>decide (i+sub.length<=hi)&&subAt s sub i) sub.length limit l st.fst.size st.snd
 | [],st=>by simp [show ∀P w lm a b,sD P w lm [] a b=[] from fun _ _ _ _ _=>rfl]
 | a::l,st=>by
  rw [List.forIn_cons,zA]
  delta occBody
  by_cases h:((st.fst.size<limit/\st.snd<=a)/\a+sub.length<=hi)/\subAt s sub a=true
  ·rw [if_pos h,if_pos (by
    have h1:=h.1.1.1; have h2:=h.1.1.2; have h3:=h.1.2; have h4:=h.2
    simp [h1,h2,h3,h4])]
   show (forIn l (st.fst.push a,a+sub.length) (occBody s sub hi limit)).run.fst.toList=_
   rw [vN s sub hi limit l]
   simp
  ·rw [if_neg h,if_neg (by
    intro hc
    simp only [Bool.and_eq_true,decide_eq_true_eq] at hc
    exact h ⟨⟨⟨hc.1,hc.2.1⟩,hc.2.2.1⟩,hc.2.2.2⟩)]
   show (forIn l (st.fst,st.snd) (occBody s sub hi limit)).run.fst.toList=_
   rw [vN s sub hi limit l]
noncomputable def nE (s y:List Nat) (lo hi limit:Nat):List Nat:=sD (fun i=>decide (i+y.length<=hi)&&K2 s y i) y.length limit (List.range' lo (hi+1-lo)) 0 lo
theorem w9 (s y:List Nat) (lo hi limit:Nat):occurrences (S s) (S y) lo hi limit=nE s y lo hi limit:=by
 rw [occ_eq,vN]
 unfold nE
 simp only [bQ,pH]
 rfl
noncomputable def lV (s:List Nat) (cuts:List Nat) (w:Nat):List (List Nat):=((0::cuts.map (· + w)).zip (cuts++[s.length])).map fun p=>(s.drop p.1).take (p.2-p.1)
theorem A0 (s:List Nat) (cuts:List Nat) (w:Nat):partsBetween (S s) cuts w=(lV s cuts w).map S:=by
 delta partsBetween lV; dsimp only
 rw [List.map_map,bQ]
 refine List.map_congr_left fun p hp=>?_
 obtain ⟨i,j⟩:=p
 show strSub (S s) i j=S ((s.drop i).take (j-i))
 unfold strSub
 rw [List.extract_toArray,List.extract_eq_take_drop]
noncomputable abbrev jX:List Nat:=[46,46,46]
theorem zD:("...":Str)=S jX:=by rfl
noncomputable def kE (s:List Nat):List (List Nat):=if (decide (s.length<3)||(nE s jX 0 s.length (s.length+1)).isEmpty)=true then [s] else lV s (nE s jX 0 s.length (s.length+1)) 3
theorem GP (x:Str):¬Builtin.Str.strKind x<1:=by
 unfold Builtin.Str.strKind
 split
 ·lia
 ·split<;>lia
theorem uS (s:List Nat):Txt.split (S s) "..." = (kE s).map S:=by
 revert s;refine no_implicit_lambda%(hK ?_);generalize HK _=s
 have hk:Builtin.Str.strKind (S jX)=1:=by decide +kernel
 delta Txt.split kE
 simp only [zD,w9,bQ,bQ,hk,decide_eq_false (GP _),Bool.or_false]
 show (if decide (s.length<3)=true then _ else _)=_
 by_cases h:s.length<3
 ·simp [h]
 ·simp only [h,decide_false,Bool.false_or]
  rw [if_neg (by decide)]
  split
  ·rfl
  ·exact A0 _ _ _
noncomputable def eX (s:List Nat):Bool:=!(nE s jX 0 s.length 1).isEmpty
theorem qJ (s:List Nat):Txt.contains (S s) "..." = eX s:=by
 unfold Txt.contains eX
 simp only [zD,w9,bQ]
noncomputable def pW (g w:List Nat):Bool:=decide (0+w.length<=g.length)&&K2 g w 0
noncomputable def EN (g w:List Nat):Bool:=decide (0+w.length<=g.length)&&K2 g w (g.length-w.length)
theorem AA (g w:List Nat):Txt.startswith (S g) (S w)=pW g w:=by
 unfold Txt.startswith pW
 simp only [pH,bQ,bQ]
theorem NP (g w:List Nat):Txt.endswith (S g) (S w)=EN g w:=by
 unfold Txt.endswith EN
 simp only [pH,bQ,bQ]
noncomputable def tU (x y:List Nat) (i j:Int):Int:=match nE x y (fromIndex x.length i) (min (fromIndex x.length j) x.length) 1 with
 | k::_=>(k:Int)
 | [] => -1
theorem LL (x y:List Nat) (i j:Int):jZ (S x) (S y) i j=tU x y i j:=by
 unfold jZ tU
 rw [w9,bQ]
 all_goals rfl
noncomputable def kX (got:List Nat) (ep:Int):List (List Nat)->Int->Bool
 | [],_=>true
 | w::ws,sp=>if tU got w sp ep<0 then false else kX got ep ws (tU got w sp ep+w.length)
theorem wE (got:List Nat) (ep:Int):∀(ws:List (List Nat)) (sp:Int),fB (S got) ep (ws.map S) sp=kX got ep ws sp
 | [],_=>rfl
 | w::ws,sp=>by
  show (if jZ (S got) (S w) sp ep<0 then false else fB (S got) ep (ws.map S) (jZ (S got) (S w) sp ep+(S w).length))=if tU got w sp ep<0 then false else kX got ep ws (tU got w sp ep+w.length)
  rw [LL,bQ,wE got ep ws]
noncomputable def lC (got:List Nat) (ws:List (List Nat)):Option (Int×List (List Nat)):=match ws with
 | []=>none
 | w::r=>if ((w.length:Int)!=0)=true then (if pW got w=true then some (w.length,r) else none) else some (0,w::r)
noncomputable def kZ (got:List Nat) (ws:List (List Nat)):Option (Int×List (List Nat)):=match ws.getLast? with
 | none=>none
 | some w=>if ((w.length:Int)!=0)=true then (if EN got w=true then some (got.length-w.length,ws.dropLast) else none) else some (got.length,ws)
theorem HA (got:List Nat) (ws:List (List Nat)):gN (S got) (ws.map S)=(lC got ws).map fun p=>(p.1,p.2.map S):=by
 cases ws with
 | nil=>rfl
 | cons w r =>
  rw [List.map_cons,gN,lC,AA,bQ]
  split
  ·split<;>rfl
  ·rfl
theorem E2 (got:List Nat) (ws:List (List Nat)):iC (S got) (ws.map S)=(kZ got ws).map fun p=>(p.1,p.2.map S):=by
 revert got ws;refine no_implicit_lambda%(hK2 ?_);generalize (HK2 _).1=got,(HK2 _).2=ws
 unfold iC kZ
 rw [List.getLast?_map]
 cases ws.getLast? with
 | none=>rfl
 | some w =>
  dsimp only [Option.map_some]
  rw [NP,bQ,bQ]
  split
  ·split
   ·rw [Option.map_some,List.map_dropLast]
   ·rfl
  ·rfl
noncomputable def B6 (want got:List Nat):Bool:=
 if eX want=true then
  match lC got (kE want) with
  | none=>false
  | some (sp,ws)=>match kZ got ws with
   | none=>false
   | some (ep,ws')=>if sp>ep then false else kX got ep ws' sp
 else want==got
theorem j3 (a b:List Nat):(S a==S b)=(a==b):=by
 rw [Bool.eq_iff_iff,beq_iff_eq,beq_iff_eq]
 constructor
 ·intro h
  injection h with h
  exact List.toArray_inj h
 ·intro h; rw [h]
theorem zW (w g:List Nat):em (S w) (S g)=B6 w g:=by
 revert w g;refine no_implicit_lambda%(hK2 ?_);generalize (HK2 _).1=w,(HK2 _).2=g
 unfold em B6
 rw [qJ,uS,HA,j3]
 split
 ·cases lC g (kE w) with
  | none=>rfl
  | some p =>
   obtain ⟨sp,ws⟩:=p
   dsimp only [Option.map_some]
   rw [E2]
   cases kZ g ws with
   | none=>rfl
   | some q =>
    obtain ⟨ep,ws'⟩:=q
    dsimp only [Option.map_some]
    rw [wE]
 ·rfl
noncomputable def G0:Nat->List (List Nat×List Nat)
 | 0=>[([],[97,98,99,100,101])]
 | i+1=>(G0 i).flatMap fun p=>(List.range p.2.length).map fun k=>(p.1++[p.2.getD k 0],p.2.eraseIdx k)
noncomputable def rowsN:List (List Nat):=(G0 5).map (·.1)
noncomputable abbrev QX (c:Nat):Str:=S [c]
theorem CH (number:Int) (i:Nat):i<=5->∃row rest,(rowSt number i).1=rest.map QX/\(rowSt number i).2.1=S row/\(row,rest)∈G0 i:=by
 induction i with
 | zero=>exact fun _=>⟨[],[97,98,99,100,101],by rfl,by rfl,List.mem_cons_self⟩
 | succ i ih =>
  intro h
  obtain ⟨row,rest,hq⟩:=ih (Nat.le_of_succ_le h)
  have h1:=hq.1
  have hl:rest.length=5-i:=by rw [←(sQ number i (Nat.le_of_succ_le h)).1,h1,List.length_map]
  have hkl:((rowSt number i).2.2.fmod (5-i:Nat)).toNat<rest.length:=Nat.lt_of_lt_of_eq (lX (rowSt number i).2.2 (k:=5-i) (Nat.sub_pos_of_lt h)).2.1 hl.symm
  refine ⟨row++[rest.getD ((rowSt number i).2.2.fmod (5-i:Nat)).toNat 0],rest.eraseIdx ((rowSt number i).2.2.fmod (5-i:Nat)).toNat,?_,?_,?_⟩
  ·show (rowSt number i).1.eraseIdx _=_
   rw [h1]
   exact nH _ _ _
  ·show (rowSt number i).2.1++(rowSt number i).1.getD _ "" = _
   rw [h1,hq.2.1]
   rw [List.getD_eq_getElem?_getD,List.getElem?_map,List.getElem?_eq_getElem hkl,List.getD_eq_getElem?_getD,List.getElem?_eq_getElem hkl]
   exact fK _ _
  ·exact List.mem_flatMap.mpr ⟨(row,rest),hq.2.2,List.mem_map.mpr ⟨_,List.mem_range.mpr hkl,rfl⟩⟩
theorem E8 (number:Int):∃l∈rowsN,oN number=S l:=by
 obtain ⟨row,rest,_,h2,h3⟩:=CH number 5 (Nat.le_refl _)
 exact ⟨row,List.mem_map.mpr ⟨_,h3,rfl⟩,h2⟩
noncomputable def L8 (x y:Nat):List Nat:=[60,46,46,46,97+x,46,46,46,97+y,46,46,46,62,97,98,99,100,101]
noncomputable def AB (r:List Nat):List Nat:=[60,10]++r++[62,97,98,99,100,101]
noncomputable def posL (r:List Nat) (x:Nat):Nat:=(nE r [97+x] 0 5 1).headD 9
noncomputable def I3 (r:List Nat):Bool:=(List.range 5).all fun x=>decide (posL r x<5)&&(List.range 5).all fun y=>B6 (L8 x y) (AB r)==decide (posL r x<posL r y)
noncomputable def MS (a b c d e:Nat):Bool:=
 !(eX [a,b,c,d,e])&&(eX [a,b,46,46,46,c,d,e]&&(kE [a,b,46,46,46,c,d,e]==[[a,b],[c,d,e]] &&
   (([[a,b,c,d,e,46,46,46,a,b,c,d,e],[a,b,c,46,46,46,c,d,e],[b,46,46,46,e],[a,46,46,46,d],[a,b],[d,e],[a,46,46,46,c,d,46,46,46,d,e],[46,46,46,b,c,46,46,46,c,d,46,46,46]]:List (List Nat)).all fun w => !B6 w [a,b,c,d,e]) &&
   B6 [46,46,46,a,46,46,46,b,46,46,46] [a,b,c,d,e,a]&&I3 [a,b,c,d,e]))
noncomputable def eP:List Nat->Bool
 | [a,b,c,d,e]=>MS a b c d e
 | _=>false
theorem BE {l:List (List Nat)} {f:List Nat->Bool} (n:Nat) (h1:(l.take n).all f=true) (h2:(l.drop n).all f=true):l.all f=true:=by
 rw [←List.take_append_drop n l,List.all_append,h1,h2]; rfl
theorem bY {l:List (List Nat)} {f:List Nat->Bool} (m k:Nat) (h1:((l.drop m).take k).all f=true) (h2:(l.drop (m+k)).all f=true):(l.drop m).all f=true:=BE k h1 (by rw [List.drop_drop]; exact h2)
theorem QF:((rowsN.drop 0).take 10).all eP=true:=by decide +kernel
theorem QR:((rowsN.drop 10).take 10).all eP=true:=by decide +kernel
theorem O6:((rowsN.drop 20).take 10).all eP=true:=by decide +kernel
theorem Q1:((rowsN.drop 30).take 10).all eP=true:=by decide +kernel
theorem P9:((rowsN.drop 40).take 10).all eP=true:=by decide +kernel
theorem OR:((rowsN.drop 50).take 10).all eP=true:=by decide +kernel
theorem QZ:((rowsN.drop 60).take 10).all eP=true:=by decide +kernel
theorem QK:((rowsN.drop 70).take 10).all eP=true:=by decide +kernel
theorem P5:((rowsN.drop 80).take 10).all eP=true:=by decide +kernel
theorem Q7:((rowsN.drop 90).take 10).all eP=true:=by decide +kernel
theorem OE:((rowsN.drop 100).take 10).all eP=true:=by decide +kernel
theorem N3:(rowsN.drop 110).all eP=true:=by decide +kernel
theorem JO {l:List Nat} (h:l∈rowsN):eP l=true:=
 List.all_eq_true.mp (show (rowsN.drop 0).all eP=true from bY 0 10 QF (bY 10 10 QR (bY 20 10 O6 (bY 30 10 Q1 (bY 40 10 P9 (bY 50 10 OR (bY 60 10 QZ (bY 70 10 QK (bY 80 10 P5 (bY 90 10 Q7 (bY 100 10 OE N3))))))))))) l h
section
structure RowOk (a b c d e:Nat):Prop where
 no:eX [a,b,c,d,e]=false
 mid:eX [a,b,46,46,46,c,d,e]=true
 sp:kE [a,b,46,46,46,c,d,e]=[[a,b],[c,d,e]]
 w:∀w∈([[a,b,c,d,e,46,46,46,a,b,c,d,e],[a,b,c,46,46,46,c,d,e],[b,46,46,46,e],[a,46,46,46,d],[a,b],[d,e],[a,46,46,46,c,d,46,46,46,d,e],[46,46,46,b,c,46,46,46,c,d,46,46,46]]:List (List Nat)),B6 w [a,b,c,d,e]=false
 run:B6 [46,46,46,a,46,46,46,b,46,46,46] [a,b,c,d,e,a]=true
 pos:∀x,x<5->posL [a,b,c,d,e] x<5
 pat:∀x y,x<5->y<5->B6 (L8 x y) (AB [a,b,c,d,e])=decide (posL [a,b,c,d,e] x<posL [a,b,c,d,e] y)
theorem FV:∀l,eP l=true->∃a b c d e,l=[a,b,c,d,e]
 | [a,b,c,d,e],_=>⟨a,b,c,d,e,rfl⟩
 | [],h=>absurd (show false=true from h) (by decide)
 | [_],h=>absurd (show false=true from h) (by decide)
 | [_,_],h=>absurd (show false=true from h) (by decide)
 | [_,_,_],h=>absurd (show false=true from h) (by decide)
 | [_,_,_,_],h=>absurd (show false=true from h) (by decide)
 | _::_::_::_::_::_::_,h=>absurd (show false=true from h) (by decide)
theorem GN {l:List Nat} (h:l∈rowsN):∃a b c d e,l=[a,b,c,d,e]/\RowOk a b c d e:=by
 have q:=JO h
 obtain ⟨a,b,c,d,e,rfl⟩:=FV l q
 replace q:MS a b c d e=true:=q
 delta MS at q
 simp only [Bool.and_eq_true] at q
 obtain ⟨q1,hq⟩:=q; have q2:=hq.1; have q3:=hq.2.1.1.1; have q4:=hq.2.1.1.2; have q5:=hq.2.1.2; have q6:=hq.2.2
 have q6':=List.all_eq_true.mp q6
 refine ⟨a,b,c,d,e,rfl,by simpa using q1,q2,by simpa using q3,fun w hw=>?_,q5,fun x hx=>?_,fun x y hx hy=>?_⟩
 ·have:=List.all_eq_true.mp q4 w hw
  rwa [Bool.not_eq_true'] at this
 ·have:=q6' x (List.mem_range.mpr hx)
  rw [Bool.and_eq_true] at this
  exact of_decide_eq_true this.1
 ·have:=q6' x (List.mem_range.mpr hx)
  rw [Bool.and_eq_true] at this
  have:=List.all_eq_true.mp this.2 y (List.mem_range.mpr hy)
  exact eq_of_beq this
theorem jC {x:Nat} (hx:x<5):letter x=S [97+x]:=by
 refine F8 (show x<5 by lia) ?_ ?_ ?_ ?_ ?_<;>decide +kernel
noncomputable def EL (r:Str) (x:Nat):Nat:=posL r.cps.toList x
section
variable (a b c d e:Nat)
theorem s02:sl (S [a,b,c,d,e]) none (some 2)=S [a,b]:=by kernel_rfl
theorem s2:sl (S [a,b,c,d,e]) (some 2) none=S [c,d,e]:=by kernel_rfl
theorem s3:sl (S [a,b,c,d,e]) (some 3) none=S [d,e]:=by kernel_rfl
theorem i0:it (S [a,b,c,d,e]) 0=S [a]:=by kernel_rfl
theorem i1:it (S [a,b,c,d,e]) 1=S [b]:=by kernel_rfl
theorem AV:dots=S [46,46,46]:=by rfl
theorem KL:mQ (S [a,b,c,d,e])=S [a,b,46,46,46,c,d,e]:=by
 unfold mQ
 simp only [s02,s2,AV,fK,fK]
 rfl
theorem KA:wantsOf (S [a,b,c,d,e])++wants2 (S [a,b,c,d,e])=([[a,b,c,d,e,46,46,46,a,b,c,d,e],[a,b,c,46,46,46,c,d,e],[b,46,46,46,e],[a,46,46,46,d],[a,b],[d,e],[a,46,46,46,c,d,46,46,46,d,e],[46,46,46,b,c,46,46,46,c,d,46,46,46]]:List (List Nat)).map S:=by
 kernel_rfl
theorem OA:G5 (S [a,b,c,d,e])=S [46,46,46,a,46,46,46,b,46,46,46]:=by
 kernel_rfl
theorem MX:S [a,b,c,d,e]++it (S [a,b,c,d,e]) 0=S [a,b,c,d,e,a]:=by
 rw [i0,fK]
 rfl
end
theorem NJ {x y:Nat} (hx:x<5) (hy:y<5):xV x y=S (L8 x y):=by
 unfold xV
 simp only [jC hx,jC hy,AV]
 rw [show ("<...":Str)=S [60,46,46,46] from rfl,show ("...>abcde":Str)=S [46,46,46,62,97,98,99,100,101] from rfl]
 rw [fK]
 rfl
theorem LW (r:List Nat):rI (S r)=S (AB r):=by
 delta rI AB
 rw [show ("<\n":Str)=S [60,10] from rfl,show (">abcde":Str)=S [62,97,98,99,100,101] from rfl]
 simp only [fK]
theorem LC {p q:List Nat} (hp:p∈rowsN) (hq:q∈rowsN):OrdOk (S p) (S q) EL:=by
 obtain ⟨a,b,c,d,e,rfl,H⟩:=GN hp
 revert q a b c d e;refine no_implicit_lambda%(hK ?_);generalize HK _=q;intro hq;refine no_implicit_lambda%(hK5 ?_);generalize (HK5 _).1=a,(HK5 _).2.1=b,(HK5 _).2.2.1=c,(HK5 _).2.2.2.1=d,(HK5 _).2.2.2.2=e;intro H hp
 obtain ⟨a',b',c',d',e',rfl,H'⟩:=GN hq
 have mid:∀t,B6 [a,b,46,46,46,c,d,e] t=match lC t [[a,b],[c,d,e]] with
  | none=>false
  | some (sp,ws)=>match kZ t ws with
   | none=>false
   | some (ep,ws')=>if sp>ep then false else kX t ep ws' sp:=fun t=>by
  rw [B6,if_pos H.mid,H.sp]
  all_goals rfl
 have mid2:∀a' b' c' d' e':Nat,B6 [a,b,46,46,46,c,d,e] [a',b',c',d',e']=([a,b,c,d,e]==[a',b',c',d',e']):=fun a' b' c' d' e'=>by
  revert a' b' c' d' e';refine no_implicit_lambda%(hK5 ?_);generalize (HK5 _).1=a',(HK5 _).2.1=b',(HK5 _).2.2.1=c',(HK5 _).2.2.2.1=d',(HK5 _).2.2.2.2=e'
  rw [mid]
  have h1:pW [a',b',c',d',e'] [a,b]=([a',b']==[a,b]):=rfl
  have h2:EN [a',b',c',d',e'] [c,d,e]=([c',d',e']==[c,d,e]):=rfl
  dsimp only [lC]
  rw [if_pos (by rfl),h1]
  cases e1:([a',b']==[a,b]) with
  | false =>
   symm
   rw [beq_eq_false_iff_ne] at e1
   show _=false
   rw [beq_eq_false_iff_ne]
   intro z
   apply e1
   simp only [List.cons.injEq] at z ⊢
   exact ⟨z.1.symm,z.2.1.symm,trivial⟩
  | true =>
   rw [beq_iff_eq] at e1
   simp only [List.cons.injEq] at e1
   rw [if_pos rfl]
   dsimp only
   unfold kZ
   show (match (if (([c,d,e].length:Int)!=0)=true then (if EN [a',b',c',d',e'] [c,d,e]=true then some (([a',b',c',d',e'].length:Int)-[c,d,e].length,[]) else none) else some (([a',b',c',d',e'].length:Int),[[c,d,e]])) with
    | none=>false
    | some (ep,ws')=>if (([a,b].length:Nat):Int)>ep then false else kX [a',b',c',d',e'] ep ws' ([a,b].length:Nat))=_
   rw [if_pos (by rfl),h2]
   cases e2:([c',d',e']==[c,d,e]) with
   | false =>
    symm
    rw [beq_eq_false_iff_ne] at e2
    show _=false
    rw [beq_eq_false_iff_ne]
    intro z
    apply e2
    simp only [List.cons.injEq] at z ⊢
    exact ⟨z.2.2.1.symm,z.2.2.2.1.symm,z.2.2.2.2.1.symm,trivial⟩
   | true =>
    rw [beq_iff_eq] at e2
    simp only [List.cons.injEq] at e2
    symm
    rw [if_pos rfl]
    show _=true
    rw [beq_iff_eq]
    simp only [List.cons.injEq]
    exact ⟨e1.1.symm,e1.2.1.symm,e2.1.symm,e2.2.1.symm,e2.2.2.1.symm,trivial⟩
 have plain:∀t,B6 [a,b,c,d,e] t=([a,b,c,d,e]==t):=fun t=>by
  rw [B6,if_neg (by rw [H.no]; decide)]
 refine ⟨bQ _,bQ _,?_,?_,?_,?_,?_,?_,?_,?_⟩
 ·rw [zW,plain]; simp
 ·rw [KL,zW,mid2]; simp
 ·rw [zW,plain,j3]
 ·rw [KL,zW,mid2,j3]
 ·intro w hw
  rw [KA] at hw
  obtain ⟨l,hl,rfl⟩:=List.mem_map.mp hw
  rw [zW]
  exact H.w l hl
 ·simp only [OA,MX,zW]
  exact H.run
 ·intro r hr x hx
  have key:∀a b c d e:Nat,RowOk a b c d e->∃rest,Builtin.Str.occurrences (S [a,b,c,d,e]) (letter x) 0 (S [a,b,c,d,e]).length 1=EL (S [a,b,c,d,e]) x::rest:=fun a b c d e H=>by
   have h5:=H.pos x hx
   simp only [jC hx,w9,bQ]
   show ∃rest,nE [a,b,c,d,e] [97+x] 0 5 1=posL [a,b,c,d,e] x::rest
   unfold posL at h5 ⊢
   cases ho:nE [a,b,c,d,e] [97+x] 0 5 1 with
   | nil=>rw [ho] at h5; exact absurd h5 (by decide)
   | cons i rest=>exact ⟨rest,rfl⟩
  rcases hr with rfl|rfl
  ·exact key _ _ _ _ _ H
  ·exact key _ _ _ _ _ H'
 ·intro r hr x y hx hy
  have key:∀a b c d e:Nat,RowOk a b c d e->em (xV x y) (rI (S [a,b,c,d,e]))=decide ((EL (S [a,b,c,d,e]) x:Int)<EL (S [a,b,c,d,e]) y):=fun a b c d e H=>by
   simp only [NJ hx hy,LW,zW,H.pat x y hx hy]
   show decide (posL [a,b,c,d,e] x<posL [a,b,c,d,e] y)=decide ((posL [a,b,c,d,e] x:Int)<posL [a,b,c,d,e] y)
   exact decide_eq_decide.mpr (by omega)
  rcases hr with rfl|rfl
  ·exact key _ _ _ _ _ H
  ·exact key _ _ _ _ _ H'
end
end
section
open PySem PySem.W PySem.Calls PyProof.Rows PySem.SeqAt
section
noncomputable def BA {α:Type} (key:α->Nat) (x:α):List α->List α
 | []=>[x]
 | y::l=>if key y<key x then y::BA key x l else x::y::l
noncomputable def dI {α:Type} (key:α->Nat):List α->List α
 | []=>[]
 | x::l=>BA key x (dI key l)
theorem sO {α:Type} (key:α->Nat) (x y:α) (l:List α):BA key x (y::l)=if key y<key x then y::BA key x l else x::y::l:=rfl
theorem lE {α:Type} (key:α->Nat) (x:α) (l:List α):dI key (x::l)=BA key x (dI key l):=rfl
theorem AN {α β:Type} (g:α->β) (key:β->Nat) (x:α):∀l:List α,(BA (fun a=>key (g a)) x l).map g=BA key (g x) (l.map g)
 | []=>rfl
 | y::l=>by
  rw [sO,List.map_cons,sO]
  split
  ·rw [List.map_cons,AN g key x l]
  ·rfl
theorem i7 {α β:Type} (g:α->β) (key:β->Nat):∀l:List α,(dI (fun a=>key (g a)) l).map g=dI key (l.map g)
 | []=>rfl
 | x::l=>by rw [lE,AN,i7 g key l,List.map_cons,lE]
theorem AX {α:Type} (key:α->Nat) (x:α):∀(l:List α) (z:α),z∈BA key x l↔z=x\/z∈l
 | [],z=>by show z∈[_]↔_; simp
 | y::l,z=>by
  rw [sO]
  split
  ·rw [List.mem_cons,AX key x l z,List.mem_cons]
   constructor
   ·rintro (h|h|h)
    ·exact .inr (.inl h)
    ·exact .inl h
    ·exact .inr (.inr h)
   ·rintro (h|h|h)
    ·exact .inr (.inl h)
    ·exact .inl h
    ·exact .inr (.inr h)
  ·rw [List.mem_cons]
theorem eW {α:Type} (key:α->Nat):∀(l:List α) (z:α),z∈dI key l↔z∈l
 | [],z=>Iff.rfl
 | x::l,z=>by rw [lE,AX,eW key l z,List.mem_cons]
theorem tH {α:Type} {k1 k2:α->Nat} {x:α}:∀ {l:List α},(∀y∈l,(k1 y<k1 x↔k2 y<k2 x))->BA k1 x l=BA k2 x l
 | [],_=>rfl
 | y::l,h=>by
  rw [sO,sO,tH fun z hz=>h z (List.mem_cons_of_mem _ hz)]
  have:=h y List.mem_cons_self
  by_cases q:k1 y<k1 x
  ·rw [if_pos q,if_pos (this.mp q)]
  ·rw [if_neg q,if_neg fun z=>q (this.mpr z)]
theorem iO {α:Type} {k1 k2:α->Nat}:∀ {l:List α},(∀x∈l,∀y∈l,(k1 y<k1 x↔k2 y<k2 x))->dI k1 l=dI k2 l
 | [],_=>rfl
 | x::l,h=>by
  rw [lE,lE,iO fun a ha b hb=>h a (List.mem_cons_of_mem _ ha) b (List.mem_cons_of_mem _ hb)]
  exact tH fun y hy=>h x List.mem_cons_self y (List.mem_cons_of_mem _ ((eW k2 l y).mp hy))
theorem A3 {α:Type} (key:α->Nat) (x:α):∀l:List α,(BA key x l).length=l.length+1
 | []=>rfl
 | y::l=>by
  rw [sO]
  split
  ·rw [List.length_cons,A3 key x l]; rfl
  ·rfl
theorem g8 {α:Type} (key:α->Nat):∀l:List α,(dI key l).length=l.length
 | []=>rfl
 | x::l=>by rw [lE,A3,g8 key l]; rfl
noncomputable def OM (r:List Nat) (i j:Nat):Option Bool:=match r[i]?,r[j]? with
 | some a,some b=>some (decide (a<b))
 | _,_=>none
noncomputable def jL (r:List Nat):Bool:=r.all fun a=>a==(r.filter fun b=>decide (b<a)).length
noncomputable def mV (r:List Nat):Bool:=match HZ (OM r) (kas_sort r.length) with
 | some p=>p.toList==dI (fun i=>r.getD i 0) (List.range r.length)
 | none=>false
noncomputable def lI:Nat->List (List Nat)
 | 0=>[[]]
 | k+1=>(lI k).flatMap fun v=>(List.range 5).map fun a=>a::v
theorem wZ:∀ {r:List Nat},(∀a∈r,a<5)->r∈lI r.length
 | [],_=>List.mem_cons_self
 | a::r,h=>List.mem_flatMap.mpr ⟨r,wZ fun b hb=>h b (List.mem_cons_of_mem _ hb),List.mem_map.mpr ⟨a,List.mem_range.mpr (h a List.mem_cons_self),rfl⟩⟩
noncomputable def wD (r:List Nat):Bool:=!jL r||mV r
theorem QT:((lI 5).take 400).all wD=true:=by decide +kernel
theorem QD:(((lI 5).drop 400).take 400).all wD=true:=by decide +kernel
theorem Q0:(((lI 5).drop 800).take 400).all wD=true:=by decide +kernel
theorem P6:(((lI 5).drop 1200).take 400).all wD=true:=by decide +kernel
theorem P3:(((lI 5).drop 1600).take 400).all wD=true:=by decide +kernel
theorem PE:(((lI 5).drop 2000).take 400).all wD=true:=by decide +kernel
theorem Q6:(((lI 5).drop 2400).take 400).all wD=true:=by decide +kernel
theorem PL:((lI 5).drop 2800).all wD=true:=by decide +kernel
theorem NY:(lI 5).all (fun r => !jL r||mV r)=true:=
 BE 400 QT (bY 400 400 QD (bY 800 400 Q0 (bY 1200 400 P6 (bY 1600 400 P3 (bY 2000 400 PE (bY 2400 400 Q6 PL))))))
theorem M3:(lI 4).all (fun r => !jL r||mV r)=true:=by decide +kernel
theorem OK:(lI 3).all (fun r => !jL r||mV r)=true:=by decide +kernel
theorem M6:(lI 2).all (fun r => !jL r||mV r)=true:=by decide +kernel
theorem D9 {n:Nat} (h2:2<=n) (h5:n<=5) {r:List Nat} (hr:r∈lI n) (ho:jL r=true):mV r=true:=by
 have key:∀l:List (List Nat),l.all (fun r => !jL r||mV r)=true->r∈l->mV r=true:=fun l h hm=>by
  have:=List.all_eq_true.mp h r hm
  rw [ho] at this
  exact this
 rcases (by lia:n=2\/n=3\/n=4\/n=5) with rfl|rfl|rfl|rfl
 ·exact key _ M6 hr
 ·exact key _ OK hr
 ·exact key _ M3 hr
 ·exact key _ NY hr
theorem GD {α:Type} {p q:α->Bool} {l:List α} (h:∀x∈l,p x=true->q x=true):(l.filter p).length<=(l.filter q).length:=by
 induction l with
 | nil=>exact Nat.le_refl _
 | cons a l ih =>
  have ih:=ih fun x hx=>h x (List.mem_cons_of_mem _ hx)
  cases hp:p a with
  | true=>rw [List.filter_cons_of_pos hp,List.filter_cons_of_pos (h a List.mem_cons_self hp)]; exact Nat.succ_le_succ ih
  | false =>
   rw [List.filter_cons_of_neg (by rw [hp]; exact Bool.false_ne_true)]
   cases hq:q a with
   | true=>rw [List.filter_cons_of_pos hq]; exact Nat.le_succ_of_le ih
   | false=>rw [List.filter_cons_of_neg (by rw [hq]; exact Bool.false_ne_true)]; exact ih
theorem D0 {α:Type} {p q:α->Bool} {l:List α} (h:∀x∈l,p x=true->q x=true) (hx:∃x∈l,q x=true/\p x=false):(l.filter p).length<(l.filter q).length:=by
 induction l with
 | nil=>exact hx.elim fun x hx=>nomatch hx.1
 | cons a l ih =>
  have hl:∀x∈l,p x=true->q x=true:=fun x hx=>h x (List.mem_cons_of_mem _ hx)
  have le:=GD hl
  cases hp:p a with
  | true =>
   rw [List.filter_cons_of_pos hp,List.filter_cons_of_pos (h a List.mem_cons_self hp)]
   refine Nat.succ_lt_succ (ih hl (hx.elim fun x z=>⟨x,(List.mem_cons.mp z.1).elim (fun e=>?_) id,z.2⟩))
   rw [←e,z.2.2] at hp
   exact nomatch hp
  | false =>
   rw [List.filter_cons_of_neg (by rw [hp]; exact Bool.false_ne_true)]
   cases hq:q a with
   | true=>rw [List.filter_cons_of_pos hq]; exact Nat.lt_succ_of_le le
   | false =>
    rw [List.filter_cons_of_neg (by rw [hq]; exact Bool.false_ne_true)]
    refine ih hl (hx.elim fun x z=>⟨x,(List.mem_cons.mp z.1).elim (fun e=>?_) id,z.2⟩)
    rw [←e,z.2.1] at hq
    exact nomatch hq
section
variable {α:Type} (key:α->Nat) (l:List α)
noncomputable def rk (a:α):Nat:=(l.filter fun b=>decide (key b<key a)).length
theorem HM {a b:α} (ha:a∈l) (hb:b∈l):rk key l a<rk key l b↔key a<key b:=by
 constructor
 ·intro h
  rcases Nat.lt_or_ge (key a) (key b) with q|q
  ·exact q
  ·exfalso
   have:rk key l b<=rk key l a:=GD fun x _ hx=>by
    rw [decide_eq_true_eq] at hx ⊢
    lia
   lia
 ·intro h
  exact D0 (fun x _ hx=>by rw [decide_eq_true_eq] at hx ⊢; lia) ⟨a,ha,by simpa using h,by simp⟩
theorem EU {a:α} (ha:a∈l):rk key l a<l.length:=by
 have:rk key l a<(l.filter fun _=>true).length:=D0 (fun _ _ _=>rfl) ⟨a,ha,rfl,by simp⟩
 rwa [List.filter_eq_self.mpr (fun _ _=>rfl)] at this
theorem N7:jL (l.map (rk key l))=true:=by
 unfold jL
 rw [List.all_eq_true]
 intro a ha
 obtain ⟨x,hx,rfl⟩:=List.mem_map.mp ha
 rw [beq_iff_eq,List.filter_map,List.length_map]
 show rk key l x=_
 unfold rk
 congr 1
 refine List.filter_congr fun b hb=>?_
 exact decide_eq_decide.mpr (HM key l hb hx).symm
end
theorem j5 {α:Type} [Inhabited α] (l:List α):(List.range l.length).map (fun i=>l.getD i default)=l:=by
 apply List.ext_getElem
 ·simp
 ·intro i h1 h2
  rw [List.getElem_map,List.getElem_range,List.getD_eq_getElem?_getD,List.getElem?_eq_getElem h2]
  rfl
theorem tD {α:Type} [Inhabited α] (emb:α->Dat) (l:List α):∀idx:List Nat,(∀i∈idx,i<l.length)->s9 (l.map emb) idx=some (idx.map fun i=>emb (l.getD i default))
 | [],_=>rfl
 | i::idx,h=>by
  have hi:=h i List.mem_cons_self
  show ((l.map emb)[i]?.bind fun d=>(s9 (l.map emb) idx).bind fun m=>some (d::m))=_
  rw [List.getElem?_map,List.getElem?_eq_getElem hi,tD emb l idx fun j hj=>h j (List.mem_cons_of_mem _ hj)]
  rw [List.map_cons,List.getD_eq_getElem?_getD,List.getElem?_eq_getElem hi]
  rfl
theorem jV {α:Type} [Inhabited α] (emb:α->Dat) (key:α->Nat) (l:List α) (h5:l.length<=5) (h:∀a∈l,∀b∈l,DU (emb a) (emb b)=some (decide (key a<key b))) :
  eO (l.map emb)=some ((dI key l).map emb):=by
 delta eO
 rw [List.length_map]
 by_cases h2:l.length<2
 ·rw [if_pos h2]
  match l,h2 with
  | [],_=>rfl
  | [a],_=>rfl
  | _::_::_,h=>simp at h; lia
 ·rw [if_neg h2]
  have hr:l.map (rk key l)∈lI l.length:=by
   have:=wZ (r:=l.map (rk key l)) fun a ha=>by
    obtain ⟨x,hx,rfl⟩:=List.mem_map.mp ha
    have:=EU key l hx
    lia
   rwa [List.length_map] at this
  have hs:=D9 (by lia) h5 hr (N7 key l)
  have hlt:wO (l.map emb)=OM (l.map (rk key l)):=by
   funext i j
   unfold wO OM
   rw [List.getElem?_map,List.getElem?_map,List.getElem?_map,List.getElem?_map]
   cases hi:l[i]? with
   | none=>rfl
   | some a =>
    cases hj:l[j]? with
    | none=>rfl
    | some b =>
     have ha:=List.mem_of_getElem? hi
     have hb:=List.mem_of_getElem? hj
     show DU (emb a) (emb b)=some (decide (rk key l a<rk key l b))
     rw [h a ha b hb]
     exact congrArg some (decide_eq_decide.mpr (HM key l ha hb).symm)
  rw [hlt]
  unfold mV at hs
  rw [List.length_map] at hs
  cases hk:HZ (OM (l.map (rk key l))) (kas_sort l.length) with
  | none=>rw [hk] at hs; cases hs
  | some p =>
   rw [hk] at hs
   have hs:p.toList=dI (fun i=>(l.map (rk key l)).getD i 0) (List.range l.length):=eq_of_beq hs
   have hc:dI (fun i=>(l.map (rk key l)).getD i 0) (List.range l.length)=dI (fun i=>key (l.getD i default)) (List.range l.length):=iO fun i hi j hj=>by
    have hi:=List.mem_range.mp hi
    have hj:=List.mem_range.mp hj
    rw [List.getD_eq_getElem?_getD,List.getD_eq_getElem?_getD,List.getElem?_map,List.getElem?_map,List.getElem?_eq_getElem hi,List.getElem?_eq_getElem hj,List.getD_eq_getElem?_getD,List.getD_eq_getElem?_getD,List.getElem?_eq_getElem hi,List.getElem?_eq_getElem hj]
    exact HM key l (List.getElem_mem hj) (List.getElem_mem hi)
   rw [hc] at hs
   show s9 _ p.toList=_
   rw [hs,tD emb l _ fun i hi=>List.mem_range.mp ((eW _ _ _).mp hi)]
   congr 1
   show List.map (emb∘fun i=>l.getD i default) _=_
   rw [←List.map_map]
   congr 1
   have:=i7 (fun i=>l.getD i default) key (List.range l.length)
   rw [j5] at this
   exact this
end
noncomputable def GL (f:Nat->Nat->Bool) (y:Nat):Nat->Int
 | 0=>0
 | i+1=>GL f y i+(if f i y=true then 2^i else 0)
noncomputable def yS (f:Nat->Nat->Bool) (x:Nat):Nat->Int
 | 0=>0
 | j+1=>yS f x j+(if f x j=true then 2^j else 0)
theorem xP (l:List Int) (k:Nat) (v:Int) (hk:k<l.length) (y:Nat):(l.set k v).getD y 0=if y=k then v else l.getD y 0:=by
 rw [List.getD_eq_getElem?_getD,List.getElem?_set]
 by_cases h:k=y
 ·subst h
  simp [hk]
 ·rw [if_neg h,if_neg (Ne.symm h),List.getD_eq_getElem?_getD]
theorem LQ (f:Nat->Nat->Bool) (y i:Nat):GL f y (i+1)=GL f y i+(if f i y=true then 2^i else 0):=rfl
theorem GO (f:Nat->Nat->Bool) (x j:Nat):yS f x (j+1)=yS f x j+(if f x j=true then 2^j else 0):=rfl
theorem CG (f:Nat->Nat->Bool) (x:Nat) (st:List Int×List Int) (l1:st.1.length=5) (l2:st.2.length=5) (hx:x<5) (j:Nat):j<=5->(∀y,(ordIn f x st j).1.getD y 0=st.1.getD y 0+(if y<j/\f x y=true then 2^x else 0))/\∀z,(ordIn f x st j).2.getD z 0=st.2.getD z 0+(if z=x then yS f x j else 0):=by
 revert l1 l2 hx;revert f x st j;refine no_implicit_lambda%(hK4 ?_);generalize (HK4 _).1=f,(HK4 _).2.1=x,(HK4 _).2.2.1=st,(HK4 _).2.2.2=j;intro l1 l2 hx
 induction j with
 | zero=>exact fun _=>⟨fun y=>by rw [if_neg fun z=>absurd z.1 (Nat.not_lt_zero y)]; exact (Int.add_zero _).symm,fun z=>by simp [show yS f x 0=0 from rfl,show ordIn f x st 0=st from rfl]⟩
 | succ j ih =>
  intro h
  obtain ⟨h1,h2⟩:=ih (Nat.le_of_succ_le h)
  obtain ⟨q1,q2⟩:=kU f x st j
  rw [z9]
  by_cases hc:f x j=true
  ·rw [if_pos hc]
   refine ⟨fun y=>?_,fun z=>?_⟩
   ·rw [xP _ _ _ (by rw [q1,l1]; lia),h1,h1]
    by_cases hy:y=j
    ·subst hy
     refine (if_pos rfl).trans ?_; rw [if_neg (by lia),if_pos ⟨by lia,hc⟩]
     lia
    ·refine (if_neg hy).trans ?_
     congr 1
     by_cases hy2:y<j/\f x y=true
     ·refine (if_pos hy2).trans ?_; rw [if_pos ⟨by lia,hy2.2⟩]
     ·refine (if_neg hy2).trans ?_; rw [if_neg fun z=>hy2 ⟨by lia,z.2⟩]
   ·rw [xP _ _ _ (by rw [q2,l2]; omega),h2,h2,GO,if_pos hc]
    by_cases hz:z=x
    ·subst hz
     simp only [if_true]
     lia
    ·refine (if_neg hz).trans ?_; rw [if_neg hz,if_neg hz]
  ·rw [if_neg hc]
   refine ⟨fun y=>?_,fun z=>?_⟩
   ·rw [h1]
    congr 1
    by_cases hy2:y<j/\f x y=true
    ·refine (if_pos hy2).trans ?_; rw [if_pos ⟨by lia,hy2.2⟩]
    ·refine (if_neg hy2).trans ?_; rw [if_neg fun z=>hy2 ⟨by
      rcases Nat.lt_or_ge y j with q|q
      ·exact q
      ·exfalso
       have:y=j:=by lia
       rw [this] at z
       exact hc z.2,z.2⟩]
   ·rw [h2,GO,if_neg hc,Int.add_zero]
theorem zB (f:Nat->Nat->Bool) (i:Nat):i<=5->(∀y,y<5->(bP f i).1.getD y 0=GL f y i)/\∀z,z<5->(bP f i).2.getD z 0=if z<i then yS f z 5 else 0:=by
 revert f i;refine no_implicit_lambda%(hK2 ?_);generalize (HK2 _).1=f,(HK2 _).2=i
 induction i with
 | zero=>exact fun _=>⟨fun y hy=>by refine F8 (show y<5 by lia) ?_ ?_ ?_ ?_ ?_<;>rfl,fun z hz=>by
   rw [if_neg (by lia)]
   refine F8 (show z<5 by lia) ?_ ?_ ?_ ?_ ?_<;>rfl⟩
 | succ i ih =>
  intro h
  obtain ⟨h1,h2⟩:=ih (Nat.le_of_succ_le h)
  obtain ⟨q1,q2⟩:=lW f i
  obtain ⟨r1,r2⟩:=CG f i (bP f i) q1 q2 (by lia) 5 (Nat.le_refl _)
  rw [show bP f (i+1)=ordIn f i (bP f i) 5 from rfl]
  refine ⟨fun y hy=>?_,fun z hz=>?_⟩
  ·simp only [r1,h1 y hy,LQ]
   congr 1
   by_cases hc:f i y=true
   ·refine (if_pos ⟨hy,hc⟩).trans ?_; rw [if_pos hc]
   ·refine (if_neg fun z=>hc z.2).trans ?_; rw [if_neg hc]
  ·rw [r2,h2 z hz]
   by_cases hzi:z=i
   ·subst hzi
    rw [if_neg (by lia),if_pos rfl,if_pos (by lia)]
    lia
   ·rw [if_neg hzi]
    by_cases hz2:z<i
    ·rw [if_pos hz2,if_pos (by lia)]; lia
    ·rw [if_neg hz2,if_neg (by lia)]; rfl
noncomputable def w2 (b:Bool) (v:Nat):Nat:=match b with
 | true=>v
 | false=>0
noncomputable def aM (f:Nat->Nat->Bool) (y:Nat):Nat:=w2 (f 0 y) 1+(w2 (f 1 y) 2+(w2 (f 2 y) 4+(w2 (f 3 y) 8+w2 (f 4 y) 16)))
noncomputable def bM (f:Nat->Nat->Bool) (x:Nat):Nat:=w2 (f x 0) 1+(w2 (f x 1) 2+(w2 (f x 2) 4+(w2 (f x 3) 8+w2 (f x 4) 16)))
theorem wM (b:Bool) (v:Nat):w2 b v<=v:=by cases b<;>first|exact Nat.zero_le _|exact Nat.le_refl _
theorem rX (b:Bool) (k v:Nat) (h:(2:Int)^k=v):(if b=true then (2:Int)^k else 0)=(w2 b v:Int):=by cases b<;>first|exact h|rfl
theorem OD {a b c d e:Bool}:0+(if a=true then (2:Int)^0 else 0)+(if b=true then (2:Int)^1 else 0)+(if c=true then (2:Int)^2 else 0)+(if d=true then (2:Int)^3 else 0)+(if e=true then (2:Int)^4 else 0)=((w2 a 1+(w2 b 2+(w2 c 4+(w2 d 8+w2 e 16))):Nat):Int):=by
 rw [rX a 0 1 rfl,rX b 1 2 rfl,rX c 2 4 rfl,rX d 3 8 rfl,rX e 4 16 rfl,Int.zero_add,Int.add_assoc,Int.add_assoc,Int.add_assoc]
 rfl
theorem N0 {a b c d e:Bool}:w2 a 1+(w2 b 2+(w2 c 4+(w2 d 8+w2 e 16)))<32:=
 Nat.lt_succ_of_le (Nat.add_le_add (wM a 1) (Nat.add_le_add (wM b 2) (Nat.add_le_add (wM c 4) (Nat.add_le_add (wM d 8) (wM e 16)))))
theorem LY (f:Nat->Nat->Bool) (y:Nat):GL f y 5=(aM f y:Int):=OD
theorem LU (f:Nat->Nat->Bool) (x:Nat):yS f x 5=(bM f x:Int):=OD
theorem M5 (f:Nat->Nat->Bool) (y:Nat):aM f y<32:=N0
theorem N5 (f:Nat->Nat->Bool) (x:Nat):bM f x<32:=N0
theorem K1 {l:List Int} {g:Nat->Int} (hl:l.length=5) (h:∀y,y<5->l.getD y 0=g y):l=(List.range 5).map g:=by
 apply List.ext_getElem
 ·rw [hl]; rfl
 ·intro i h1 h2
  simp only [List.getElem_map,List.getElem_range,←h i (by lia),List.getD_eq_getElem?_getD,List.getElem?_eq_getElem h1]
  rfl
theorem LJ (f:Nat->Nat->Bool):(bP f 5).1=(List.range 5).map (fun y=>(aM f y:Int))/\(bP f 5).2=(List.range 5).map (fun x=>(bM f x:Int)):=by
 obtain ⟨h1,h2⟩:=zB f 5 (Nat.le_refl _)
 have hq:=lW f 5; have q1:=hq.1; have q2:=hq.2
 exact ⟨K1 q1 fun y hy=>by rw [h1 y hy,LY],K1 q2 fun z hz=>by rw [h2 z hz,if_pos hz,LU]⟩
noncomputable def tb (m k:Nat):Bool:=Nat.beq (Nat.land (Nat.shiftRight m k) 1) 1
noncomputable def r5:List Nat:=[0,1,2,3,4]
noncomputable def iJ (m:Nat):List Nat:=r5.filter (tb m)
noncomputable def pA (m:Nat):Nat:=Nat.land (Nat.shiftRight 55157063682984551670960690248 (Nat.mul 3 m)) 7
noncomputable def leq:List Nat->List Nat->Bool
 | [],[]=>true
 | a::l,b::m=>match Nat.beq a b with
  | true=>leq l m
  | false=>false
 | _,_=>false
noncomputable def elemB (x:Nat):List Nat->Bool
 | []=>false
 | a::l=>match Nat.beq a x with
  | true=>true
  | false=>elemB x l
noncomputable def EB {α:Type} (key:α->Nat) (x:α):List α->List α
 | []=>[x]
 | y::l=>match Nat.blt (key y) (key x) with
  | true=>y::EB key x l
  | false=>x::y::l
noncomputable def dC {α:Type} (key:α->Nat):List α->List α
 | []=>[]
 | x::l=>EB key x (dC key l)
noncomputable def uY:List Nat->Nat
 | []=>0
 | _::l=>Nat.succ (uY l)
noncomputable def o3 (a b:Nat):Bool:=Nat.beq (Nat.lor a b) a
noncomputable def GG (hx hy:List Nat):Bool:=leq (hx.drop (Nat.sub (uY hx) (uY hy))) hy
noncomputable def sL (lb:List Nat):List (List Nat)->Nat
 | []=>0
 | h::l=>match leq h lb with
  | true=>0
  | false=>Nat.succ (sL lb l)
noncomputable def sE (h:List Nat):List (List Nat)->Bool
 | []=>false
 | a::l=>match leq a h with
  | true=>true
  | false=>sE h l
noncomputable def sK:List (List Nat)->List (List Nat)->List (List Nat)
 | [],acc=>acc
 | h::l,acc=>match sE h acc with
  | true=>sK l acc
  | false=>sK l (acc++[h])
noncomputable def i8 (x:Nat):List Nat->List Nat
 | []=>[x]
 | y::l=>match Nat.beq y x with
  | true=>y::l
  | false=>match Nat.blt y x with
   | true=>y::i8 x l
   | false=>x::y::l
noncomputable def xK (a:Nat):List Nat->Nat
 | []=>0
 | x::l=>match Nat.beq x a with
  | true=>0
  | false=>Nat.succ (xK a l)
noncomputable def rZ (a:Nat):Nat->List Nat
 | 0=>[]
 | k+1=>a::rZ (Nat.succ a) k
noncomputable def l7 (y:Nat):List (List Nat)->Nat->List Nat
 | [],_=>[]
 | m::ls,k=>match elemB y m with
  | true=>k::l7 y ls (Nat.succ k)
  | false=>l7 y ls (Nat.succ k)
noncomputable def a9 {α:Type} (n:Nat) (k:Nat->α):α:=match n with
 | 0=>k 0
 | m+1=>k (Nat.succ m)
noncomputable def gM {α:Type}:List Nat->(List Nat->α)->α
 | [],k=>k []
 | x::l,k=>a9 x fun x=>gM l fun l=>k (x::l)
noncomputable def mL {α:Type}:List (List Nat)->(List (List Nat)->α)->α
 | [],k=>k []
 | x::l,k=>gM x fun x=>mL l fun l=>k (x::l)
theorem gB {α:Type} (n:Nat) (k:Nat->α):a9 n k=k n:=by cases n<;>rfl
theorem kW {α:Type}:∀(l:List Nat) (k:List Nat->α),gM l k=k l
 | [],k=>rfl
 | x::l,k=>by show a9 x (fun x=>gM l fun l=>k (x::l))=_; rw [gB,kW l]
theorem qP {α:Type}:∀(l:List (List Nat)) (k:List (List Nat)->α),mL l k=k l
 | [],k=>rfl
 | x::l,k=>by show gM x (fun x=>mL l fun l=>k (x::l))=_; rw [kW,qP l]
noncomputable def lH (a0 a1 a2 a3 a4:Nat):Nat->Nat
 | 0=>a0
 | 1=>a1
 | 2=>a2
 | 3=>a3
 | _=>a4
noncomputable def MD (a0 a1 a2 a3 a4:List Nat):Nat->List Nat
 | 0=>a0
 | 1=>a1
 | 2=>a2
 | 3=>a3
 | _=>a4
noncomputable def O3:Bool->Bool->Bool
 | true,b=>b
 | false,b => !b
noncomputable def uC (f:Nat->Bool):Bool:=f 0&&(f 1&&(f 2&&(f 3&&f 4)))
noncomputable def nU (f:Nat->Bool):Bool:=f 0||(f 1||(f 2||(f 3||f 4)))
noncomputable def kI (A:Nat->Nat):Bool:=nU fun x=>nU fun y=>Nat.blt x y&&(!o3 (A y) (A x) && !o3 (A x) (A y))
noncomputable def mk (y:Nat):Nat:=lH 2863311530 3435973836 4042322160 4278255360 4294901760 y
noncomputable def wb (m y v:Nat):Nat:=match tb m y with
 | true=>v
 | false=>0
noncomputable def LP (m:Nat):Nat:=Nat.lor (wb m 0 2863311530) (Nat.lor (wb m 1 3435973836) (Nat.lor (wb m 2 4042322160) (Nat.lor (wb m 3 4278255360) (wb m 4 4294901760))))
noncomputable def CX (A:Nat->Nat) (y:Nat):Nat:=Nat.land (mk y) (LP (A y))
noncomputable def l8 (A:Nat->Nat):Nat:=Nat.lor (CX A 0) (Nat.lor (CX A 1) (Nat.lor (CX A 2) (Nat.lor (CX A 3) (CX A 4))))
noncomputable def C9 (C:Nat->Nat) (z:Nat):Nat:=Nat.lor (mk z) (LP (C z))
noncomputable def m7 (C:Nat->Nat):Nat:=Nat.land (C9 C 0) (Nat.land (C9 C 1) (Nat.land (C9 C 2) (Nat.land (C9 C 3) (C9 C 4))))
noncomputable def iE (A:Nat->Nat) (bad out n:Nat):Option (Nat×List Nat):=
 match tb bad n with
 | true=>none
 | false=>match tb out n with
  | false=>none
  | true=>some (pA ((iJ n).foldl (fun f y=>Nat.lor f (A y)) 0),iJ n)
noncomputable def r31:List Nat:=[1,2,3,4,5,6,7,8,9,10,11,12,13,14,15,16,17,18,19,20,21,22,23,24,25,26,27,28,29,30,31]
noncomputable def BP:List (Nat×List Nat)->Bool
 | []=>true
 | [_]=>true
 | p::q::l=>Nat.blt p.1 q.1&&BP (q::l)
noncomputable def CZ:List (Nat×List Nat)->List (List Nat)->Bool
 | [],[]=>true
 | p::l,m::ms=>leq p.2 m&&CZ l ms
 | _,_=>false
noncomputable def NA (c x:Nat):Nat:=Nat.sub 31 (Nat.lor c (lH 1 2 4 8 16 x))
noncomputable def MZ (A B C:Nat->Nat):Bool:=nU fun x=>a9 (NA (C x) x) fun p=>nU fun y=>tb p y&&(!(Nat.beq (Nat.land (A y) p) 0) && !(Nat.beq (Nat.land (B y) p) 0))
noncomputable def KR (A B C:Nat->Nat) (ls:List (List Nat)) (fr en:List Nat):Bool:=
 a9 ls.length fun n =>
 Nat.beq n (uY en) &&
 (a9 (xK (A 0) fr) fun f0=>a9 (xK (A 1) fr) fun f1=>a9 (xK (A 2) fr) fun f2=>a9 (xK (A 3) fr) fun f3=>a9 (xK (A 4) fr) fun f4 =>
  a9 (xK (B 0) en) fun e0=>a9 (xK (B 1) en) fun e1=>a9 (xK (B 2) en) fun e2=>a9 (xK (B 3) en) fun e3=>a9 (xK (B 4) en) fun e4 =>
  (uC fun y=>Nat.blt (Nat.add (lH f0 f1 f2 f3 f4 y) (lH e0 e1 e2 e3 e4 y)) n&&leq (l7 y ls 0) (rZ (lH f0 f1 f2 f3 f4 y) (Nat.sub (Nat.sub n (lH e0 e1 e2 e3 e4 y)) (lH f0 f1 f2 f3 f4 y)))) &&
  O3 (nU fun x=>nU fun y=>Nat.blt (lH f0 f1 f2 f3 f4 x) (lH f0 f1 f2 f3 f4 y)&&Nat.blt (lH e0 e1 e2 e3 e4 x) (lH e0 e1 e2 e3 e4 y)) (MZ A B C))
noncomputable def HV (A B C:Nat->Nat) (h0 h1 h2 h3 h4:List Nat):Bool:=
 (uC fun x=>uC fun y=>O3 (GG (MD h0 h1 h2 h3 h4 x) (MD h0 h1 h2 h3 h4 y)) (o3 (A x) (A y))) &&
 (mL (sK (dC uY [h0,h1,h2,h3,h4]) []) fun lads =>
  mL (lads.map fun lb=>a9 (sL lb [h0,h1,h2,h3,h4]) fun i=>r5.filter fun y => !(elemB y lb)&&o3 (A i) (A y)) fun ls =>
  (a9 (l8 A) fun bad=>a9 (m7 C) fun out=>let comps:=dC (fun p=>p.1) (r31.filterMap (iE A bad out)); BP comps&&CZ comps ls) &&
  gM (i8 (A 0) (i8 (A 1) (i8 (A 2) (i8 (A 3) [A 4])))) fun fr=>gM (i8 (B 0) (i8 (B 1) (i8 (B 2) (i8 (B 3) [B 4])))) fun en=>KR A B C ls fr en)
noncomputable def o6 (B:Nat->Nat) (x:Nat):Nat:=Nat.add (Nat.mul 8 (pA (B x))) x
noncomputable def K9 (A B:Nat->Nat):Bool:=
 a9 (o6 B 0) fun k0=>a9 (o6 B 1) fun k1=>a9 (o6 B 2) fun k2=>a9 (o6 B 3) fun k3=>a9 (o6 B 4) fun k4 =>
 a9 (Nat.lor (A 0) (B 0)) fun c0=>a9 (Nat.lor (A 1) (B 1)) fun c1=>a9 (Nat.lor (A 2) (B 2)) fun c2=>a9 (Nat.lor (A 3) (B 3)) fun c3=>a9 (Nat.lor (A 4) (B 4)) fun c4 =>
 gM (dC (lH k0 k1 k2 k3 k4) (iJ (A 0))) fun h0=>gM (dC (lH k0 k1 k2 k3 k4) (iJ (A 1))) fun h1=>gM (dC (lH k0 k1 k2 k3 k4) (iJ (A 2))) fun h2=>gM (dC (lH k0 k1 k2 k3 k4) (iJ (A 3))) fun h3=>gM (dC (lH k0 k1 k2 k3 k4) (iJ (A 4))) fun h4 =>
 HV A B (lH c0 c1 c2 c3 c4) h0 h1 h2 h3 h4
noncomputable def chk (A B:Nat->Nat):Bool:=match kI A with
 | true=>true
 | false=>(uC fun x=>uC fun y => !(Nat.beq (pA (A x)) (pA (A y)))||Nat.beq (A x) (A y))&&K9 A B
section
noncomputable def lG (f:Bool->Bool):Bool:=f true&&f false
theorem dE {f:Bool->Bool} (h:lG f=true) (b:Bool):f b=true:=by
 unfold lG at h
 rw [Bool.and_eq_true] at h
 cases b
 ·exact h.2
 ·exact h.1
noncomputable def imp (p q:Bool):Bool:=match p with
 | true=>q
 | false=>true
theorem iT {p q:Bool} (h:imp p q=true) (hp:p=true):q=true:=by
 subst hp
 exact h
noncomputable def L5 (a0 a1 a2 a3 a4 b0 b1 b2 b3 b4:Nat):Bool:=
 a9 a0 fun a0=>a9 a1 fun a1=>a9 a2 fun a2=>a9 a3 fun a3=>a9 a4 fun a4=>a9 b0 fun b0=>a9 b1 fun b1=>a9 b2 fun b2=>a9 b3 fun b3=>a9 b4 fun b4 =>
  chk (lH a0 a1 a2 a3 a4) (lH b0 b1 b2 b3 b4)
theorem IS (a0 a1 a2 a3 a4 b0 b1 b2 b3 b4:Nat):L5 a0 a1 a2 a3 a4 b0 b1 b2 b3 b4=chk (lH a0 a1 a2 a3 a4) (lH b0 b1 b2 b3 b4):=by
 unfold L5
 simp only [gB]
noncomputable def bJ (b01 b10 b02 b20 b12 b21:Bool):Bool:=imp (!(b01&&b10)) (imp (!(b02&&b20)) (imp (!(b12&&b21)&&((!(b10&&b02)||b12)&&((!(b12&&b20)||b10)&&((!(b01&&b12)||b02)&&((!(b02&&b21)||b01)&&((!(b21&&b10)||b20)&&(!(b20&&b01)||b21))))))) (lG fun b03=>lG fun b30=>imp (!(b03&&b30)) (lG fun b13=>lG fun b31=>imp (!(b13&&b31)&&((!(b10&&b03)||b13)&&((!(b13&&b30)||b10)&&((!(b01&&b13)||b03)&&((!(b03&&b31)||b01)&&((!(b31&&b10)||b30)&&(!(b30&&b01)||b31))))))) (lG fun b23=>lG fun b32=>imp (!(b23&&b32)&&((!(b20&&b03)||b23)&&((!(b23&&b30)||b20)&&((!(b02&&b23)||b03)&&((!(b03&&b32)||b02)&&((!(b32&&b20)||b30)&&((!(b30&&b02)||b32)&&((!(b21&&b13)||b23)&&((!(b23&&b31)||b21)&&((!(b12&&b23)||b13)&&((!(b13&&b32)||b12)&&((!(b32&&b21)||b31)&&(!(b31&&b12)||b32))))))))))))) (lG fun b04=>lG fun b40=>imp (!(b04&&b40)) (lG fun b14=>lG fun b41=>imp (!(b14&&b41)&&((!(b10&&b04)||b14)&&((!(b14&&b40)||b10)&&((!(b01&&b14)||b04)&&((!(b04&&b41)||b01)&&((!(b41&&b10)||b40)&&(!(b40&&b01)||b41))))))) (lG fun b24=>lG fun b42=>imp (!(b24&&b42)&&((!(b20&&b04)||b24)&&((!(b24&&b40)||b20)&&((!(b02&&b24)||b04)&&((!(b04&&b42)||b02)&&((!(b42&&b20)||b40)&&((!(b40&&b02)||b42)&&((!(b21&&b14)||b24)&&((!(b24&&b41)||b21)&&((!(b12&&b24)||b14)&&((!(b14&&b42)||b12)&&((!(b42&&b21)||b41)&&(!(b41&&b12)||b42))))))))))))) (lG fun b34=>lG fun b43=>imp (!(b34&&b43)&&((!(b30&&b04)||b34)&&((!(b34&&b40)||b30)&&((!(b03&&b34)||b04)&&((!(b04&&b43)||b03)&&((!(b43&&b30)||b40)&&((!(b40&&b03)||b43)&&((!(b31&&b14)||b34)&&((!(b34&&b41)||b31)&&((!(b13&&b34)||b14)&&((!(b14&&b43)||b13)&&((!(b43&&b31)||b41)&&((!(b41&&b13)||b43)&&((!(b32&&b24)||b34)&&((!(b34&&b42)||b32)&&((!(b23&&b34)||b24)&&((!(b24&&b43)||b23)&&((!(b43&&b32)||b42)&&(!(b42&&b23)||b43))))))))))))))))))) (L5 (w2 false 1+(w2 b10 2+(w2 b20 4+(w2 b30 8+w2 b40 16)))) (w2 b01 1+(w2 false 2+(w2 b21 4+(w2 b31 8+w2 b41 16)))) (w2 b02 1+(w2 b12 2+(w2 false 4+(w2 b32 8+w2 b42 16)))) (w2 b03 1+(w2 b13 2+(w2 b23 4+(w2 false 8+w2 b43 16)))) (w2 b04 1+(w2 b14 2+(w2 b24 4+(w2 b34 8+w2 false 16)))) (w2 false 1+(w2 b01 2+(w2 b02 4+(w2 b03 8+w2 b04 16)))) (w2 b10 1+(w2 false 2+(w2 b12 4+(w2 b13 8+w2 b14 16)))) (w2 b20 1+(w2 b21 2+(w2 false 4+(w2 b23 8+w2 b24 16)))) (w2 b30 1+(w2 b31 2+(w2 b32 4+(w2 false 8+w2 b34 16)))) (w2 b40 1+(w2 b41 2+(w2 b42 4+(w2 b43 8+w2 false 16))))))))))))))
theorem tr0:bJ true true true true true true=true:=by decide +kernel
theorem tr1:bJ true true true true true false=true:=by decide +kernel
theorem tr2:bJ true true true true false true=true:=by decide +kernel
theorem tr3:bJ true true true true false false=true:=by decide +kernel
theorem tr4:bJ true true true false true true=true:=by decide +kernel
theorem tr5:bJ true true true false true false=true:=by decide +kernel
theorem tr6:bJ true true true false false true=true:=by decide +kernel
theorem tr7:bJ true true true false false false=true:=by decide +kernel
theorem tr8:bJ true true false true true true=true:=by decide +kernel
theorem tr9:bJ true true false true true false=true:=by decide +kernel
theorem QE:bJ true true false true false true=true:=by decide +kernel
theorem Q5:bJ true true false true false false=true:=by decide +kernel
theorem QL:bJ true true false false true true=true:=by decide +kernel
theorem PC:bJ true true false false true false=true:=by decide +kernel
theorem OV:bJ true true false false false true=true:=by decide +kernel
theorem PT:bJ true true false false false false=true:=by decide +kernel
theorem OS:bJ true false true true true true=true:=by decide +kernel
theorem QA:bJ true false true true true false=true:=by decide +kernel
theorem QG:bJ true false true true false true=true:=by decide +kernel
theorem P1:bJ true false true true false false=true:=by decide +kernel
theorem QY:bJ true false true false true true=true:=by decide +kernel
theorem PG:bJ true false true false true false=true:=by decide +kernel
theorem QV:bJ true false true false false true=true:=by decide +kernel
theorem PX:bJ true false true false false false=true:=by decide +kernel
theorem PJ:bJ true false false true true true=true:=by decide +kernel
theorem QM:bJ true false false true true false=true:=by decide +kernel
theorem O1:bJ true false false true false true=true:=by decide +kernel
theorem QJ:bJ true false false true false false=true:=by decide +kernel
theorem O8:bJ true false false false true true=true:=by decide +kernel
theorem QW:bJ true false false false true false=true:=by decide +kernel
theorem PS:bJ true false false false false true=true:=by decide +kernel
theorem O2:bJ true false false false false false=true:=by decide +kernel
theorem O0:bJ false true true true true true=true:=by decide +kernel
theorem P4:bJ false true true true true false=true:=by decide +kernel
theorem QO:bJ false true true true false true=true:=by decide +kernel
theorem QS:bJ false true true true false false=true:=by decide +kernel
theorem QU:bJ false true true false true true=true:=by decide +kernel
theorem PP:bJ false true true false true false=true:=by decide +kernel
theorem QI:bJ false true true false false true=true:=by decide +kernel
theorem P7:bJ false true true false false false=true:=by decide +kernel
theorem Q3:bJ false true false true true true=true:=by decide +kernel
theorem QH:bJ false true false true true false=true:=by decide +kernel
theorem PW:bJ false true false true false true=true:=by decide +kernel
theorem PF:bJ false true false true false false=true:=by decide +kernel
theorem OQ:bJ false true false false true true=true:=by decide +kernel
theorem OW:bJ false true false false true false=true:=by decide +kernel
theorem O9:bJ false true false false false true=true:=by decide +kernel
theorem OX:bJ false true false false false false=true:=by decide +kernel
theorem QP:bJ false false true true true true=true:=by decide +kernel
theorem PO:bJ false false true true true false=true:=by decide +kernel
theorem PV:bJ false false true true false true=true:=by decide +kernel
theorem Q2:bJ false false true true false false=true:=by decide +kernel
theorem PD:bJ false false true false true true=true:=by decide +kernel
theorem PQ:bJ false false true false true false=true:=by decide +kernel
theorem PN:bJ false false true false false true=true:=by decide +kernel
theorem PR:bJ false false true false false false=true:=by decide +kernel
theorem PH:bJ false false false true true true=true:=by decide +kernel
theorem QN:bJ false false false true true false=true:=by decide +kernel
theorem P2:bJ false false false true false true=true:=by decide +kernel
theorem O5:bJ false false false true false false=true:=by decide +kernel
theorem PA:bJ false false false false true true=true:=by decide +kernel
theorem P8:bJ false false false false true false=true:=by decide +kernel
theorem PB:bJ false false false false false true=true:=by decide +kernel
theorem OT:bJ false false false false false false=true:=by decide +kernel
theorem FN:∀b01 b10 b02 b20 b12 b21:Bool,bJ b01 b10 b02 b20 b12 b21=true
 | true,true,true,true,true,true=>tr0
 | true,true,true,true,true,false=>tr1
 | true,true,true,true,false,true=>tr2
 | true,true,true,true,false,false=>tr3
 | true,true,true,false,true,true=>tr4
 | true,true,true,false,true,false=>tr5
 | true,true,true,false,false,true=>tr6
 | true,true,true,false,false,false=>tr7
 | true,true,false,true,true,true=>tr8
 | true,true,false,true,true,false=>tr9
 | true,true,false,true,false,true=>QE
 | true,true,false,true,false,false=>Q5
 | true,true,false,false,true,true=>QL
 | true,true,false,false,true,false=>PC
 | true,true,false,false,false,true=>OV
 | true,true,false,false,false,false=>PT
 | true,false,true,true,true,true=>OS
 | true,false,true,true,true,false=>QA
 | true,false,true,true,false,true=>QG
 | true,false,true,true,false,false=>P1
 | true,false,true,false,true,true=>QY
 | true,false,true,false,true,false=>PG
 | true,false,true,false,false,true=>QV
 | true,false,true,false,false,false=>PX
 | true,false,false,true,true,true=>PJ
 | true,false,false,true,true,false=>QM
 | true,false,false,true,false,true=>O1
 | true,false,false,true,false,false=>QJ
 | true,false,false,false,true,true=>O8
 | true,false,false,false,true,false=>QW
 | true,false,false,false,false,true=>PS
 | true,false,false,false,false,false=>O2
 | false,true,true,true,true,true=>O0
 | false,true,true,true,true,false=>P4
 | false,true,true,true,false,true=>QO
 | false,true,true,true,false,false=>QS
 | false,true,true,false,true,true=>QU
 | false,true,true,false,true,false=>PP
 | false,true,true,false,false,true=>QI
 | false,true,true,false,false,false=>P7
 | false,true,false,true,true,true=>Q3
 | false,true,false,true,true,false=>QH
 | false,true,false,true,false,true=>PW
 | false,true,false,true,false,false=>PF
 | false,true,false,false,true,true=>OQ
 | false,true,false,false,true,false=>OW
 | false,true,false,false,false,true=>O9
 | false,true,false,false,false,false=>OX
 | false,false,true,true,true,true=>QP
 | false,false,true,true,true,false=>PO
 | false,false,true,true,false,true=>PV
 | false,false,true,true,false,false=>Q2
 | false,false,true,false,true,true=>PD
 | false,false,true,false,true,false=>PQ
 | false,false,true,false,false,true=>PN
 | false,false,true,false,false,false=>PR
 | false,false,false,true,true,true=>PH
 | false,false,false,true,true,false=>QN
 | false,false,false,true,false,true=>P2
 | false,false,false,true,false,false=>O5
 | false,false,false,false,true,true=>PA
 | false,false,false,false,true,false=>P8
 | false,false,false,false,false,true=>PB
 | false,false,false,false,false,false=>OT
theorem fA {p q:Bool} (h1:p=true) (h2:q=true):(p&&q)=true:=by rw [h1,h2]; rfl
theorem C4 (f:Nat->Nat->Bool) (ir:∀x,x<5->f x x=false) (tr:∀x y z,x<5->y<5->z<5->f x y=true->f y z=true->f x z=true) :
  chk (lH (aM f 0) (aM f 1) (aM f 2) (aM f 3) (aM f 4)) (lH (bM f 0) (bM f 1) (bM f 2) (bM f 3) (bM f 4))=true:=by
 have t3:∀x y z,x<5->y<5->z<5->(!(f x y&&f y z)||f x z)=true:=fun x y z hx hy hz=>by
  cases h1:f x y
  ·rfl
  ·cases h2:f y z
   ·rfl
   ·rw [tr x y z hx hy hz h1 h2]; rfl
 have an:∀x y,x<5->y<5->(!(f x y&&f y x))=true:=fun x y hx hy=>by
  cases h1:f x y
  ·rfl
  ·cases h2:f y x
   ·rfl
   ·have:=tr x y x hx hy hx h1 h2
    rw [ir x hx] at this
    cases this
 have h:=FN (f 0 1) (f 1 0) (f 0 2) (f 2 0) (f 1 2) (f 2 1)
 unfold bJ at h
 replace h:=iT h (an 0 1 (by decide) (by decide))
 replace h:=iT h (an 0 2 (by decide) (by decide))
 replace h:=iT h (fA (an 1 2 (by decide) (by decide)) (fA (t3 1 0 2 (by decide) (by decide) (by decide)) (fA (t3 1 2 0 (by decide) (by decide) (by decide)) (fA (t3 0 1 2 (by decide) (by decide) (by decide)) (fA (t3 0 2 1 (by decide) (by decide) (by decide)) (fA (t3 2 1 0 (by decide) (by decide) (by decide)) (t3 2 0 1 (by decide) (by decide) (by decide))))))))
 replace h:=dE (dE h (f 0 3)) (f 3 0)
 replace h:=iT h (an 0 3 (by decide) (by decide))
 replace h:=dE (dE h (f 1 3)) (f 3 1)
 replace h:=iT h (fA (an 1 3 (by decide) (by decide)) (fA (t3 1 0 3 (by decide) (by decide) (by decide)) (fA (t3 1 3 0 (by decide) (by decide) (by decide)) (fA (t3 0 1 3 (by decide) (by decide) (by decide)) (fA (t3 0 3 1 (by decide) (by decide) (by decide)) (fA (t3 3 1 0 (by decide) (by decide) (by decide)) (t3 3 0 1 (by decide) (by decide) (by decide))))))))
 replace h:=dE (dE h (f 2 3)) (f 3 2)
 replace h:=iT h (fA (an 2 3 (by decide) (by decide)) (fA (t3 2 0 3 (by decide) (by decide) (by decide)) (fA (t3 2 3 0 (by decide) (by decide) (by decide)) (fA (t3 0 2 3 (by decide) (by decide) (by decide)) (fA (t3 0 3 2 (by decide) (by decide) (by decide)) (fA (t3 3 2 0 (by decide) (by decide) (by decide)) (fA (t3 3 0 2 (by decide) (by decide) (by decide)) (fA (t3 2 1 3 (by decide) (by decide) (by decide)) (fA (t3 2 3 1 (by decide) (by decide) (by decide)) (fA (t3 1 2 3 (by decide) (by decide) (by decide)) (fA (t3 1 3 2 (by decide) (by decide) (by decide)) (fA (t3 3 2 1 (by decide) (by decide) (by decide)) (t3 3 1 2 (by decide) (by decide) (by decide))))))))))))))
 replace h:=dE (dE h (f 0 4)) (f 4 0)
 replace h:=iT h (an 0 4 (by decide) (by decide))
 replace h:=dE (dE h (f 1 4)) (f 4 1)
 replace h:=iT h (fA (an 1 4 (by decide) (by decide)) (fA (t3 1 0 4 (by decide) (by decide) (by decide)) (fA (t3 1 4 0 (by decide) (by decide) (by decide)) (fA (t3 0 1 4 (by decide) (by decide) (by decide)) (fA (t3 0 4 1 (by decide) (by decide) (by decide)) (fA (t3 4 1 0 (by decide) (by decide) (by decide)) (t3 4 0 1 (by decide) (by decide) (by decide))))))))
 replace h:=dE (dE h (f 2 4)) (f 4 2)
 replace h:=iT h (fA (an 2 4 (by decide) (by decide)) (fA (t3 2 0 4 (by decide) (by decide) (by decide)) (fA (t3 2 4 0 (by decide) (by decide) (by decide)) (fA (t3 0 2 4 (by decide) (by decide) (by decide)) (fA (t3 0 4 2 (by decide) (by decide) (by decide)) (fA (t3 4 2 0 (by decide) (by decide) (by decide)) (fA (t3 4 0 2 (by decide) (by decide) (by decide)) (fA (t3 2 1 4 (by decide) (by decide) (by decide)) (fA (t3 2 4 1 (by decide) (by decide) (by decide)) (fA (t3 1 2 4 (by decide) (by decide) (by decide)) (fA (t3 1 4 2 (by decide) (by decide) (by decide)) (fA (t3 4 2 1 (by decide) (by decide) (by decide)) (t3 4 1 2 (by decide) (by decide) (by decide))))))))))))))
 replace h:=dE (dE h (f 3 4)) (f 4 3)
 replace h:=iT h (fA (an 3 4 (by decide) (by decide)) (fA (t3 3 0 4 (by decide) (by decide) (by decide)) (fA (t3 3 4 0 (by decide) (by decide) (by decide)) (fA (t3 0 3 4 (by decide) (by decide) (by decide)) (fA (t3 0 4 3 (by decide) (by decide) (by decide)) (fA (t3 4 3 0 (by decide) (by decide) (by decide)) (fA (t3 4 0 3 (by decide) (by decide) (by decide)) (fA (t3 3 1 4 (by decide) (by decide) (by decide)) (fA (t3 3 4 1 (by decide) (by decide) (by decide)) (fA (t3 1 3 4 (by decide) (by decide) (by decide)) (fA (t3 1 4 3 (by decide) (by decide) (by decide)) (fA (t3 4 3 1 (by decide) (by decide) (by decide)) (fA (t3 4 1 3 (by decide) (by decide) (by decide)) (fA (t3 3 2 4 (by decide) (by decide) (by decide)) (fA (t3 3 4 2 (by decide) (by decide) (by decide)) (fA (t3 2 3 4 (by decide) (by decide) (by decide)) (fA (t3 2 4 3 (by decide) (by decide) (by decide)) (fA (t3 4 3 2 (by decide) (by decide) (by decide)) (t3 4 2 3 (by decide) (by decide) (by decide))))))))))))))))))))
 rw [IS] at h
 unfold aM bM
 rw [ir 0 (by decide),ir 1 (by decide),ir 2 (by decide),ir 3 (by decide),ir 4 (by decide)]
 exact h
end
theorem gF {a b:Nat}:Nat.blt a b=true↔a<b:=by rw [Nat.blt_eq]
theorem dT {a b:Nat}:Nat.beq a b=true↔a=b:=by rw [Nat.beq_eq]
theorem vH {l:List Nat}:∀ {m:List Nat},leq l m=true->l=m:=by
 induction l with
 | nil=>intro m; cases m with
  | nil=>exact fun _=>rfl
  | cons=>exact jD
 | cons a l ih=>intro m; cases m with
  | nil=>exact jD
  | cons b m =>
   show (match Nat.beq a b with|true=>leq l m|false=>false)=true->_
   cases h:Nat.beq a b with
   | true=>exact fun q=>congr (congrArg _ (dT.mp h)) (ih q)
   | false=>exact jD
theorem FU (l:List Nat):leq l l=true:=by
 induction l with
 | nil=>rfl
 | cons a l ih =>
  show (match Nat.beq a a with|true=>leq l l|false=>false)=true
  rw [dT.mpr rfl]
  exact ih
theorem jM {l m:List Nat}:leq l m=true↔l=m:=⟨vH,fun h=>h▸FU l⟩
theorem i3 {x:Nat} {l:List Nat}:elemB x l=true↔x∈l:=by
 induction l with
 | nil=>exact ⟨jD,fun h=>nomatch h⟩
 | cons a l ih =>
  show (match Nat.beq a x with|true=>true|false=>elemB x l)=true↔_
  cases h:Nat.beq a x with
  | true=>exact ⟨fun _=>dT.mp h▸List.mem_cons_self,fun _=>rfl⟩
  | false=>exact ⟨fun q=>List.mem_cons_of_mem _ (ih.mp q),fun q=>(List.mem_cons.mp q).elim (fun e=>jD (h.symm.trans (dT.mpr e.symm))) ih.mpr⟩
theorem rA (x:Nat) (l:List Nat):elemB x l=l.contains x:=by
 rw [Bool.eq_iff_iff,i3,List.contains_iff_mem]
theorem J3 {α:Type} (key:α->Nat) (x:α) (l:List α):EB key x l=BA key x l:=by
 induction l with
 | nil=>rfl
 | cons y l ih =>
  show (match Nat.blt (key y) (key x) with|true=>y::EB key x l|false=>x::y::l)=if key y<key x then y::BA key x l else x::y::l
  cases h:Nat.blt (key y) (key x) with
  | true=>rw [if_pos (gF.mp h),←ih]
  | false=>rw [if_neg fun z=>by rw [gF.mpr z] at h; cases h]
theorem gA {α:Type} (key:α->Nat) (l:List α):dC key l=dI key l:=by
 induction l with
 | nil=>rfl
 | cons x l ih =>
  show EB key x (dC key l)=BA key x (dI key l)
  rw [J3,ih]
theorem l3 (l:List Nat):uY l=l.length:=by
 induction l with
 | nil=>rfl
 | cons a l ih=>exact congrArg Nat.succ ih
theorem jF {f:Nat->Bool}:uC f=true↔∀x,x<5->f x=true:=by
 unfold uC
 simp only [Bool.and_eq_true]
 constructor
 ·rintro ⟨h0,h1,h2,h3,h4⟩ x hx
  rcases (by lia:x=0\/x=1\/x=2\/x=3\/x=4) with rfl|rfl|rfl|rfl|rfl<;>assumption
 ·intro h
  exact ⟨h 0 (by decide),h 1 (by decide),h 2 (by decide),h 3 (by decide),h 4 (by decide)⟩
theorem dM {f:Nat->Bool}:nU f=true↔∃x,x<5/\f x=true:=by
 revert f;refine no_implicit_lambda%(hK ?_);generalize HK _=f
 unfold nU
 simp only [Bool.or_eq_true]
 constructor
 ·rintro (h|h|h|h|h)
  ·exact ⟨0,by decide,h⟩
  ·exact ⟨1,by decide,h⟩
  ·exact ⟨2,by decide,h⟩
  ·exact ⟨3,by decide,h⟩
  ·exact ⟨4,by decide,h⟩
 ·rintro ⟨x,hx,h⟩
  rcases (by lia:x=0\/x=1\/x=2\/x=3\/x=4) with rfl|rfl|rfl|rfl|rfl
  ·exact .inl h
  ·exact .inr (.inl h)
  ·exact .inr (.inr (.inl h))
  ·exact .inr (.inr (.inr (.inl h)))
  ·exact .inr (.inr (.inr (.inr h)))
theorem z6 {a b:Bool}:O3 a b=true↔a=b:=by cases a<;>cases b<;>decide
theorem KV:r5=List.range 5:=rfl
theorem MF {x:Nat}:x∈r5↔x<5:=by rw [KV,List.mem_range]
theorem d6 {m x:Nat}:x∈iJ m↔x<5/\tb m x=true:=by
 unfold iJ
 rw [List.mem_filter,MF]
theorem fY:∀m:Nat,m<32->aK (m:Int)=iJ m:=by decide +kernel
theorem mC:∀m,m<32->pA m=(iJ m).length:=by decide +kernel
theorem GS:∀a,a<32->∀b,b<32->(o3 a b=true↔∀x,x<5->tb b x=true->tb a x=true):=by decide +kernel
theorem wK:∀m,m<32->(iJ m).length<=5:=by decide +kernel
noncomputable def hl (A B:Nat->Nat) (y:Nat):List Nat:=dI (fun x=>8*pA (B x)+x) (iJ (A y))
noncomputable def hostOf (A B:Nat->Nat) (y:Nat):List Str:=(hl A B y).map letter++[("local":Str)]
noncomputable def told (A B:Nat->Nat) (x y:Nat):Bool:=GG (hl A B x) (hl A B y)
theorem qY {A B:Nat->Nat} {x y:Nat}:told A B x y=true↔(hl A B x).drop ((hl A B x).length-(hl A B y).length)=hl A B y:=by
 unfold told GG
 rw [jM,l3,l3]
 exact Iff.rfl
theorem yE {A B:Nat->Nat} {y z:Nat}:z∈hl A B y↔z<5/\tb (A y) z=true:=by
 unfold hl
 rw [eW,d6]
theorem mR {A B:Nat->Nat} {y z:Nat} (h:z∈hl A B y):z<5:=(yE.mp h).1
theorem zI (A B:Nat->Nat) (y:Nat):(hl A B y).length=(iJ (A y)).length:=g8 _ _
theorem g5 {A B:Nat->Nat} {y:Nat} (h:A y<32):(hl A B y).length<=5:=by
 rw [zI]
 exact wK _ h
theorem wX {A B:Nat->Nat} {x y:Nat} (hx:A x<32) (hy:A y<32) (h:told A B x y=true):o3 (A x) (A y)=true:=by
 rw [GS _ hx _ hy]
 intro z hz ht
 have:z∈hl A B y:=yE.mpr ⟨hz,ht⟩
 rw [←qY.mp h] at this
 exact (yE.mp (List.mem_of_mem_drop this)).2
section
variable {W:Wd} {n:Nat}
theorem eV {α:Type} (p:α->Bool) (l:List α):(l.filter p).isEmpty = !l.any p:=by
 rw [Bool.eq_iff_iff,List.isEmpty_iff,List.filter_eq_nil_iff,Bool.not_eq_true',List.any_eq_false]
theorem nM {A:Nat->Nat}:kI A=true↔∃x y,x<y/\y<5/\o3 (A y) (A x)=false/\o3 (A x) (A y)=false:=by
 revert A;refine no_implicit_lambda%(hK ?_);generalize HK _=A
 unfold kI
 rw [dM]
 constructor
 ·rintro ⟨x,hx,h⟩
  obtain ⟨y,hy,h⟩:=dM.mp h
  rw [Bool.and_eq_true,Bool.and_eq_true,gF,Bool.not_eq_true',Bool.not_eq_true'] at h
  exact ⟨x,y,h.1,hy,h.2.1,h.2.2⟩
 ·rintro ⟨x,y,h1,h2,h3,h4⟩
  refine ⟨x,by lia,dM.mpr ⟨y,h2,?_⟩⟩
  rw [Bool.and_eq_true,Bool.and_eq_true,gF,Bool.not_eq_true',Bool.not_eq_true']
  exact ⟨h1,h3,h4⟩
theorem mX:∀a:Nat,a<32->∀b:Nat,b<32->(Builtin.bitAnd (a:Int) (Builtin.bitNot (b:Int))!=0) = !o3 b a:=by decide +kernel
theorem oI {A:Nat->Nat} {aL:List Int} (hA:∀y,y<5->A y<32) (ha:∀y,y<5->aL.getD y 0=(A y:Int)):(iY aL).isEmpty = !kI A:=by
 revert A aL;refine no_implicit_lambda%(hK2 ?_);generalize (HK2 _).1=A,(HK2 _).2=aL;intro hA ha
 unfold iY
 rw [eV]
 congr 1
 rw [Bool.eq_iff_iff,nM,List.any_eq_true]
 constructor
 ·rintro ⟨p,hp,h⟩
  obtain ⟨h1,h2⟩:=gH hp
  rw [Bool.and_eq_true,Bool.and_eq_true,decide_eq_true_eq] at h
  unfold lT at h
  rw [ha _ h1,ha _ h2,mX _ (hA _ h1) _ (hA _ h2),mX _ (hA _ h2) _ (hA _ h1),Bool.not_eq_true',Bool.not_eq_true'] at h
  exact ⟨p.1,p.2,by lia,h2,h.2.1,h.2.2⟩
 ·rintro ⟨x,y,h1,h2,h3,h4⟩
  have hx:x<5:=by lia
  refine ⟨(x,y),nT hx h2,?_⟩
  rw [Bool.and_eq_true,Bool.and_eq_true,decide_eq_true_eq]
  unfold lT
  rw [ha _ hx,ha _ h2,mX _ (hA _ hx) _ (hA _ h2),mX _ (hA _ h2) _ (hA _ hx),h3,h4]
  exact ⟨by show (x:Int)<y; lia,rfl,rfl⟩
theorem M8 {A B:Nat->Nat} {aL:List Int} (hA:∀y,y<5->A y<32) (ha:∀y,y<5->aL.getD y 0=(A y:Int)) (hc:kI A=false->∀x y,x<5->y<5->told A B x y=o3 (A x) (A y)) :
  (mA (told A B)).isEmpty=(iY aL).isEmpty:=by
 revert A B aL;refine no_implicit_lambda%(hK3 ?_);generalize (HK3 _).1=A,(HK3 _).2.1=B,(HK3 _).2.2=aL;intro hA ha hc
 rw [oI hA ha]
 unfold mA
 rw [eV]
 congr 1
 cases h:kI A with
 | true =>
  obtain ⟨x,y,h1,h2,h3,h4⟩:=nM.mp h
  have hx:x<5:=by lia
  rw [List.any_eq_true]
  refine ⟨(x,y),nT hx h2,?_⟩
  have t1:told A B x y=false:=by
   cases t:told A B x y with
   | false=>rfl
   | true=>rw [wX (hA _ hx) (hA _ h2) t] at h4; cases h4
  have t2:told A B y x=false:=by
   cases t:told A B y x with
   | false=>rfl
   | true=>rw [wX (hA _ h2) (hA _ hx) t] at h3; cases h3
  show (decide ((x:Int)<y)&&(!told A B x y && !told A B y x))=true
  rw [t1,t2,decide_eq_true (by lia)]
  rfl
 | false =>
  rw [List.any_eq_false]
  intro p hp hq
  obtain ⟨h1,h2⟩:=gH hp
  rw [Bool.and_eq_true,Bool.and_eq_true,decide_eq_true_eq,hc h _ _ h1 h2,hc h _ _ h2 h1,Bool.not_eq_true',Bool.not_eq_true'] at hq
  have:kI A=true:=nM.mpr ⟨p.1,p.2,by lia,h2,hq.2.2,hq.2.1⟩
  rw [h] at this
  cases this
theorem qV:∀a,a<5->∀b,b<5->letter a=letter b->a=b:=by decide +kernel
theorem oJ:∀ {l m:List Nat},(∀x∈l,x<5)->(∀x∈m,x<5)->l.map letter=m.map letter->l=m
 | [],[],_,_,_=>rfl
 | [],_::_,_,_,h=>by simp at h
 | _::_,[],_,_,h=>by simp at h
 | a::l,b::m,h1,h2,h=>by
  rw [List.map_cons,List.map_cons] at h
  injection h with e1 e2
  rw [qV a (h1 a List.mem_cons_self) b (h2 b List.mem_cons_self) e1,oJ (fun x hx=>h1 x (List.mem_cons_of_mem _ hx)) (fun x hx=>h2 x (List.mem_cons_of_mem _ hx)) e2]
theorem A5:∀ {l m:List Str},l.map Dat.str=m.map Dat.str->l=m
 | [],[],_=>rfl
 | [],_::_,h=>by simp at h
 | _::_,[],h=>by simp at h
 | a::l,b::m,h=>by
  rw [List.map_cons,List.map_cons] at h
  injection h with e1 e2
  injection e1 with e1
  rw [e1,A5 e2]
theorem mH (l m:List Str):eJ (aO l) (aO m)=true↔l=m:=by
 rw [mE]
 constructor
 ·intro h
  injection h with h
  exact A5 h
 ·intro h; rw [h]
theorem m9 {l m:List Nat} (h1:∀x∈l,x<5) (h2:∀x∈m,x<5):l.map letter++[("local":Str)]=m.map letter++[("local":Str)]↔l=m:=by
 constructor
 ·intro h
  exact oJ h1 h2 (List.append_cancel_right h)
 ·intro h; rw [h]
theorem eQ (A B:Nat->Nat) (y:Nat):(hostOf A B y).length=(hl A B y).length+1:=by
 unfold hostOf
 rw [List.length_append,List.length_map]
 rfl
theorem M4 {A B:Nat->Nat} (x y:Nat):eJ (aO ((hostOf A B x).drop ((hostOf A B x).length-(hostOf A B y).length))) (aO (hostOf A B y))=told A B x y:=by
 rw [Bool.eq_iff_iff,mH,qY,eQ,eQ,Nat.add_sub_add_right]
 unfold hostOf
 rw [List.drop_append_of_le_length (by rw [List.length_map]; exact Nat.sub_le _ _),←List.map_drop]
 exact m9 (fun z hz=>mR (List.mem_of_mem_drop hz)) (fun z hz=>mR hz)
theorem FZ {a b c d:Nat} (hb:b<8) (hd:d<8):DU (pairD (a,b)) (pairD (c,d))=some (decide (8*a+b<8*c+d)):=by
 by_cases h:a=c
 ·subst h
  by_cases h2:b=d
  ·subst h2
   rw [decide_eq_false (Nat.lt_irrefl _)]
   exact qR rfl
  ·exact (JN fun z=>h2 (Int.ofNat.inj z)).trans (congrArg some (decide_eq_decide.mpr (Int.ofNat_lt.trans (Nat.add_lt_add_iff_left).symm)))
 ·exact (uQ fun z=>h (Int.ofNat.inj z)).trans (congrArg some (decide_eq_decide.mpr (by lia)))
theorem JA {f fM:Addr} {A B:Nat->Nat} {aL bL:List Int} {y:Nat} (D:DefAt W f (aT 19) ["ahead","behind","y"]) (G:Glb W) (NM:FnName W "_law_members" fM) (DM:DefAt W fM (aT 17) ["number"])
  (la:aL.length=5) (lb:bL.length=5) (hA:∀y,y<5->A y<32) (hB:∀y,y<5->B y<32) (ha:∀y,y<5->aL.getD y 0=(A y:Int)) (hb:∀y,y<5->bL.getD y 0=(B y:Int)) (hy:y<5) :
  Fn W (n+4) f [aG aL,aG bL,.int y] (aO (hostOf A B y)):=by
 have hr:zX aL bL y=(iJ (A y)).map fun x=>(pA (B x),x):=by
  unfold zX
  rw [ha y hy,fY _ (hA y hy)]
  refine List.map_congr_left fun x hx=>?_
  have hx5:=(d6.mp hx).1
  rw [hb x hx5,fY _ (hB x hx5),mC _ (hB x hx5)]
 have hs:eO ((zX aL bL y).map pairD)=some (((hl A B y).map fun x=>(pA (B x),x)).map pairD):=by
  rw [hr,jV pairD (fun p=>8*p.1+p.2) _ (by rw [List.length_map]; exact wK _ (hA y hy)) fun p hp q hq=>?_]
  ·rw [←i7 (fun x=>(pA (B x),x)) (fun p:Nat×Nat=>8*p.1+p.2)]
   rfl
  ·obtain ⟨x,hx,rfl⟩:=List.mem_map.mp hp
   obtain ⟨z,hz,rfl⟩:=List.mem_map.mp hq
   have h1:=(d6.mp hx).1
   have h2:=(d6.mp hz).1
   exact FZ (by lia) (by lia)
 have:=CM (n:=n) D G NM DM la lb hy hs (fun p hp=>by
  obtain ⟨x,hx,rfl⟩:=List.mem_map.mp hp
  exact mR hx) (by rw [List.length_map]; exact g5 (hA y hy))
 rw [List.map_map] at this
 have e:aO (hostOf A B y)=.list (((hl A B y).map ((fun p:Nat×Nat=>Dat.str (letter p.2))∘fun x=>(pA (B x),x)))++[.str "local"]):=by
  unfold hostOf
  rw [aO,List.map_append,List.map_map]
  rfl
 rw [e]
 exact this
end
end
section
open PySem PySem.W PySem.Calls PyProof.Rows PySem.SeqAt
open Builtin.Str StrLaws
section
variable {W:Wd} {n:Nat}
theorem tY {l:List Nat} (h:∀c∈l,c<128):Txt.upper (S l)=S (l.map up1):=by
 rw [upper_ascii (x:=S l) (by simpa using h)]
 simp
theorem z7 {l:List Nat} (h:∀c∈l,c<128):Txt.lower (S l)=S (l.map lo1):=by
 rw [lower_ascii (x:=S l) (by simpa using h)]
 simp
theorem sV (s:List Nat):∀(r:List (List Nat)) (acc:List Nat),(r.map S).foldl (fun acc p=>acc++(S s).cps++p.cps) acc.toArray=(acc++r.flatMap fun p=>s++p).toArray
 | [],acc=>by simp
 | p::r,acc=>by
  simp only [List.map_cons,List.foldl_cons,List.flatMap_cons]
  have:acc.toArray++(S s).cps++(S p).cps=(acc++s++p).toArray:=by simp
  rw [this,sV s r]
  simp
theorem yB (s x:List Nat) (r:List (List Nat)):Txt.join (S s) ((x::r).map S)=S (x++r.flatMap fun p=>s++p):=by
 delta Txt.join glued
 refine Str.ext' ?_
 exact sV s r x
theorem pM {sep:Str} {texts:List Str} {B:Nat} (hB:∀y∈texts,y.length<=B) (h:texts.length*B+texts.length*sep.length<=16777216):JoinOk sep texts=true:=by
 unfold JoinOk
 rw [joinFits hB h]
 rfl
theorem x0 {l:List Nat} (h:1<=l.length):Txt.slice (S l) (some 1) none=S (l.drop 1):=by
 have hz:(S l).cps.toList.length=l.length:=rfl
 have:=sliceText_from (x:=S l) (i:=1) ⟨by decide,by lia⟩
 show sliceText (S l) (some 1) none=_
 rw [this]
 refine Str.ext' ?_
 show (((S l).cps.toList.drop (1:Int).toNat).take _).toArray=(l.drop 1).toArray
 simp only [List.toList_toArray]
 rw [List.take_of_length_le]
 ·rfl
 ·rw [List.length_drop]
  exact Nat.le_of_eq (Int.toNat_sub l.length 1).symm
noncomputable def locL:List Nat:=[108,111,99,97,108]
noncomputable def cH (l:List Nat):List Nat:=l.flatMap fun x=>[46,97+x]
noncomputable def dotT (l:List Nat):List Nat:=cH l++46::locL
theorem AL:("local":Str)=S locL:=by rfl
theorem oQ:(".":Str)=S [46]:=by rfl
theorem BM {l:List Nat} (h:∀x∈l,x<5):l.map letter++[("local":Str)]=(l.map (fun x=>[97+x])++[locL]).map S:=by
 simp only [List.map_append,List.map_map,AL]
 congr 1
 exact List.map_congr_left fun x hx=>jC (h x hx)
theorem FI (l:List Nat):(l.map (fun x=>[97+x])++[locL]).flatMap (fun p=>[46]++p)=dotT l:=by
 delta dotT cH
 rw [List.flatMap_append,List.flatMap_map]
 rfl
theorem iZ {l:List Nat} (h:∀x∈l,x<5):Txt.join "." (l.map letter++[("local":Str)])=S ((dotT l).drop 1):=by
 rw [BM h,oQ,←FI]
 cases e:l.map (fun x=>[97+x])++[locL] with
 | nil=>simp at e
 | cons x r =>
  rw [yB]
  rfl
theorem tS (l:List Nat):∃c t,dotT l=46::c::t/\c≠46:=by
 delta dotT cH
 cases l with
 | nil=>exact ⟨108,_,rfl,by decide⟩
 | cons x l=>exact ⟨97+x,_,rfl,by lia⟩
theorem iB (l:List Nat):46::(dotT l).drop 1=dotT l:=by
 obtain ⟨c,t,e,_⟩:=tS l
 rw [e]
 rfl
theorem jE (l:List Nat):(cH l).length=2*l.length:=by
 unfold cH
 induction l with
 | nil=>rfl
 | cons x l ih=>simp only [List.flatMap_cons,List.length_append,ih]; simp only [List.length_cons,List.length_nil]; lia
theorem bS (l:List Nat):(dotT l).length=2*l.length+6:=by
 unfold dotT
 rw [List.length_append,jE]
 rfl
noncomputable def lQ (c:Nat):Prop:=c=46\/97<=c/\c<=122
theorem eY {l:List Nat} (h:∀x∈l,x<5):∀c∈dotT l,lQ c:=by
 intro c hc
 unfold dotT cH at hc
 rcases List.mem_append.mp hc with hc|hc
 ·obtain ⟨x,hx,hc⟩:=List.mem_flatMap.mp hc
  have:=h x hx
  rcases List.mem_cons.mp hc with rfl|hc
  ·exact .inl rfl
  ·rw [List.mem_singleton.mp hc]
   exact .inr ⟨by lia,by lia⟩
 ·rcases List.mem_cons.mp hc with rfl|hc
  ·exact .inl rfl
  ·have:∀c∈locL,97<=c/\c<=122:=by decide
   exact .inr (this c hc)
theorem mG {c:Nat} (h:lQ c):c<128:=by unfold lQ at h; omega
theorem I5 {c:Nat} (h:lQ c):lo1 c=c:=by
 unfold lQ at h
 unfold lo1
 rw [if_neg (by lia)]
theorem u6 {c:Nat} (h:lQ c):lo1 (up1 c)=c/\up1 c<128/\up1 c≠10:=by
 unfold lQ at h
 delta lo1 up1
 rcases h with rfl|h
 ·decide
 ·have e:(if 97<=c/\c<=122 then c-32 else c)=c-32:=if_pos h
  rw [e]
  refine ⟨?_,Nat.lt_of_le_of_lt (Nat.sub_le _ _) (Nat.lt_of_le_of_lt h.2 (by decide)),Nat.ne_of_gt (Nat.lt_of_lt_of_le (by decide) (Nat.le_sub_of_add_le h.1))⟩
  rw [if_pos ⟨Nat.le_sub_of_add_le h.1,Nat.sub_le_of_le_add h.2⟩]
  exact Nat.sub_add_cancel (Nat.le_trans (by decide) h.1)
theorem u7 {l:List Nat} (h:∀c∈l,lQ c):l.map lo1=l:=by
 rw [List.map_congr_left fun c hc=>I5 (h c hc)]
 simp
theorem sU {l:List Nat} (h:∀c∈l,lQ c):(l.map up1).map lo1=l:=by
 rw [List.map_map]
 conv=>rhs; rw [←List.map_id l]
 exact List.map_congr_left fun c hc=>(u6 (h c hc)).1
theorem IW (t:Array Nat) (n:Nat):∀(p:Nat),iR t p n=n->∀i,i<n->Sre.isDigit (t.getD (p+i) 0)=true:=by
 induction n with
 | zero=>exact fun _ _ i hi=>absurd hi (Nat.not_lt_zero _)
 | succ n ih =>
  intro p h i hi
  rw [rJ] at h
  by_cases hd:Sre.isDigit (t.getD p 0)=true
  ·rw [if_pos hd] at h
   cases i with
   | zero=>exact hd
   | succ i =>
    rw [show p+(i+1)=p+1+i from (Nat.add_right_comm p i 1)]
    exact ih (p+1) (Nat.succ.inj h) i (Nat.lt_of_succ_lt_succ hi)
  ·rw [if_neg hd] at h
   exact absurd h (Nat.succ_ne_zero n).symm
theorem MO {l:List Nat} (h:Sre.isDigit (l.getLastD 0)=false):nW (S l)=false:=
 eq_false_of_ne_true fun hb=>by
  obtain ⟨p,_,h1,h2,h3,h4⟩:=(kJ _).mp hb
  have hs:(S l).cps.size=l.length:=List.size_toArray ..
  rw [hs] at h1 h3 h4
  obtain ⟨k,hk⟩:=Nat.exists_eq_add_of_lt h1
  have e3:l.length-(p+1)=k:=by rw [hk,Nat.add_right_comm,Nat.add_sub_cancel_left]
  rw [e3] at h3 h4
  have hc:iR (S l).cps (p+1) k=k:=by lia
  obtain ⟨j,rfl⟩:∃j,k=j+1:=⟨k-1,(Nat.sub_add_cancel (hc▸h3)).symm⟩
  have this:=IW (S l).cps (j+1) (p+1) hc j (Nat.lt_succ_self j)
  have e:(S l).cps.getD (p+1+j) 0=l.getLastD 0:=by
   rw [nS,List.getLastD_eq_getLast?,List.getLast?_eq_getElem?,List.getD_eq_getElem?_getD]
   rw [show p+1+j=l.length-1 by rw [hk]; exact Nat.add_right_comm p 1 j]
  rw [e,h] at this
  exact jD this
theorem AC (c:Nat) (l:List Nat):Txt.item (S (c::l)) 0=S [c]:=by
 delta Txt.item Txt.charAt seqIndex?
 simp [Str.length]
theorem BH {l:List Nat} (h:l≠[]):Txt.item (S l) (-1)=S [l.getLastD 0]:=by
 have hl:0<l.length:=List.length_pos_iff.mpr h
 delta Txt.item Txt.charAt seqIndex?
 rw [bQ]
 have h1:(0<=(-1:Int)+(l.length:Int)):=by omega
 have h2:((-1:Int)+(l.length:Int))<l.length:=by omega
 have h3:((-1:Int)+(l.length:Int)).toNat=l.length-1:=RE _
 simp only [show ((-1:Int)<0) by decide,if_true,h1,h2,decide_true,Bool.and_self,h3,Option.bind_some]
 rw [List.getLastD_eq_getLast?,List.getLast?_eq_getElem?]
 simp
theorem pN {c:Nat} {l:List Nat} (hd:Sre.isDigit ((c::l).getLastD 0)=false) (h1:c≠46) (h2:(c::l).getLastD 0≠46):gP (S (c::l))=true:=by
 unfold gP
 rw [MO hd,AC,BH (by simp),oQ]
 rw [show ("":Str)=S [] from rfl,j3,j3,j3]
 simp
 exact ⟨h1,by simpa using h2⟩
theorem KB (l:List Nat):gP (S (46::l))=false:=by
 unfold gP
 simp only [AC,oQ,show ("":Str)=S [] from rfl,j3,j3]
 simp
theorem JW {l:List Nat} (h:l≠[]) (h2:l.getLastD 0=46):gP (S l)=false:=by
 unfold gP
 rw [BH h,h2,oQ]
 simp
theorem KI:gP (S [])=false:=by
 unfold gP
 rw [show ("":Str)=S [] from rfl,j3]
 rfl
theorem MC (l:List Nat):gP (S (l++[46,52,48]))=false:=by
 unfold gP
 have:nW (S (l++[46,52,48]))=true:=(kJ _).mpr ⟨l.length,Nat.zero_le _,by
  have hs:(S (l++[46,52,48])).cps.size=l.length+3:=by simp
  have g:∀i c,[46,52,48][i]? = some c->(S (l++[46,52,48])).cps.getD (l.length+i) 0=c:=fun i c h=>by
   rw [nS]
   show (l++[46,52,48]).getD (l.length+i) 0=c
   rw [List.getD_eq_getElem?_getD,List.getElem?_append_right (Nat.le_add_right _ _),Nat.add_sub_cancel_left,h]
   rfl
  unfold y9
  rw [hs,show l.length+3-(l.length+1)=2 by lia]
  have c2:iR (S (l++[46,52,48])).cps (l.length+1) 2=2:=by
   rw [rJ,g 1 52 rfl,if_pos (by decide)]
   rw [rJ,show l.length+1+1=l.length+2 from rfl,g 2 48 rfl,if_pos (by decide)]
   rfl
  rw [c2]
  exact ⟨by lia,g 0 46 rfl,by decide,by lia⟩⟩
 rw [this]
 rfl
end
section
variable {W:Wd} {n:Nat}
noncomputable def LB (x y:List Nat) (i:Nat):Prop:=i+y.length<=x.length/\(x.drop i).take y.length=y
theorem ID (x y:List Nat) (i:Nat):At (S x) (S y) (S x).length i↔LB x y i:=by
 unfold At LB
 rw [bQ,bQ,pH]
 unfold K2
 rw [beq_iff_eq]
theorem yR {x y:List Nat} (h:∀i,¬LB x y i):Txt.rfind (S x) (S y) = -1:=by
 unfold Txt.rfind
 rcases last_spec (S x) (S y) with ⟨e,_⟩|⟨i,_,hA,_⟩
 ·rw [e]
 ·exact absurd ((ID x y i).mp hA) (h i)
theorem rM {x y:List Nat} {j:Nat} (hj:LB x y j):∃i:Nat,Txt.rfind (S x) (S y)=i/\j<=i/\LB x y i:=by
 revert x y j;refine no_implicit_lambda%(hK3 ?_);generalize (HK3 _).1=x,(HK3 _).2.1=y,(HK3 _).2.2=j;intro hj
 unfold Txt.rfind
 rcases last_spec (S x) (S y) with ⟨_,h⟩|⟨i,e,hA,hm⟩
 ·exact absurd ((ID x y j).mpr hj) (h j)
 ·refine ⟨i,by rw [e],?_,(ID x y i).mp hA⟩
  rcases Nat.lt_or_ge i j with q|q
  ·exact absurd ((ID x y j).mpr hj) (hm j q)
  ·exact q
theorem wU:∀ {a b:List Nat},cH a=cH b->a=b
 | [],[],_=>rfl
 | [],_::_,h=>by simp [cH] at h
 | _::_,[],h=>by simp [cH] at h
 | x::a,y::b,h=>by
  unfold cH at h
  rw [List.flatMap_cons,List.flatMap_cons] at h
  have h:46::(97+x)::cH a=46::(97+y)::cH b:=h
  injection h with _ h
  injection h with h1 h2
  rw [wU h2,show x=y by lia]
theorem n0:∀(k:Nat) (l:List Nat),(cH l).drop (2*k)=cH (l.drop k)
 | 0,l=>rfl
 | k+1,[]=>by simp [cH]
 | k+1,x::l=>by
  have:cH (x::l)=46::(97+x)::cH l:=rfl
  rw [this,show 2*(k+1)=2*k+1+1 by lia,List.drop_succ_cons,List.drop_succ_cons,n0 k l]
  rfl
noncomputable def xC (l:List Nat):Prop:=∀c∈l,c≠108
theorem y3:∀ {a:List Nat} (r:List Nat),xC a->(a++108::r).takeWhile (fun c=>c != 108)=a
 | [],r,_=>by simp
 | c::a,r,h=>by
  have hc:c≠108:=h c List.mem_cons_self
  rw [List.cons_append,List.takeWhile_cons_of_pos (by simpa using hc),y3 r fun d hd=>h d (List.mem_cons_of_mem _ hd)]
theorem z8 {l:List Nat} (h:∀x∈l,x<5):xC (cH l):=fun c hc=>by
 obtain ⟨x,hx,hc⟩:=List.mem_flatMap.mp hc
 have:=h x hx
 rcases List.mem_cons.mp hc with rfl|hc
 ·decide
 ·rw [List.mem_singleton.mp hc]; lia
theorem DN {lx ly:List Nat} (hx:∀x∈lx,x<5) (hy:∀x∈ly,x<5) {i:Nat} (h:LB (122::dotT lx) (dotT ly) i):lx.drop (lx.length-ly.length)=ly:=by
 revert hx hy h;revert lx ly i;refine no_implicit_lambda%(hK3 ?_);generalize (HK3 _).1=lx,(HK3 _).2.1=ly,(HK3 _).2.2=i;intro hx hy h
 obtain ⟨h1,h2⟩:=h
 rw [List.length_cons,bS,bS] at h1
 have hX:122::dotT lx=(122::cH lx++[46])++108::[111,99,97,108]:=by simp [dotT,locL]
 have hY:dotT ly=(cH ly++[46])++108::[111,99,97,108]:=by simp [dotT,locL]
 have nX:xC (122::cH lx++[46]):=fun c hc=>by
  rcases List.mem_append.mp hc with hc|hc
  ·rcases List.mem_cons.mp hc with rfl|hc
   ·decide
   ·exact z8 hx c hc
  ·rw [List.mem_singleton.mp hc]; decide
 have nY:xC (cH ly++[46]):=fun c hc=>by
  rcases List.mem_append.mp hc with hc|hc
  ·exact z8 hy c hc
  ·rw [List.mem_singleton.mp hc]; decide
 have split:122::dotT lx=(122::dotT lx).take i++(dotT ly++((122::dotT lx).drop i).drop (dotT ly).length):=by
  conv=>lhs; rw [←List.take_append_drop i (122::dotT lx)]
  congr 1
  conv=>lhs; rw [←List.take_append_drop (dotT ly).length ((122::dotT lx).drop i)]
  rw [h2]
 have npre:xC ((122::dotT lx).take i):=fun c hc=>by
  rw [hX,List.take_append_of_le_length (by simp [jE]; lia)] at hc
  exact nX c (List.mem_of_mem_take hc)
 have e1:(122::dotT lx).takeWhile (fun c=>c != 108)=122::cH lx++[46]:=by
  rw [hX]
  exact y3 _ nX
 have e2:(122::dotT lx).takeWhile (fun c=>c != 108)=(122::dotT lx).take i++(cH ly++[46]):=by
  conv=>lhs; rw [split]
  rw [hY,←List.append_assoc,←List.append_assoc,List.append_assoc ((122::dotT lx).take i++(cH ly++[46])),List.cons_append]
  exact y3 _ fun c hc=>by
   rcases List.mem_append.mp hc with hc|hc
   ·exact npre c hc
   ·exact nY c hc
 rw [e1,←List.append_assoc] at e2
 have e3:122::cH lx=(122::dotT lx).take i++cH ly:=List.append_cancel_right e2
 have hlen:((122::dotT lx).take i).length=i:=by rw [List.length_take,List.length_cons,bS]; lia
 have e4:=congrArg List.length e3
 rw [List.length_cons,jE,List.length_append,hlen,jE] at e4
 have e5:(122::cH lx).drop i=cH ly:=by
  rw [e3,List.drop_append_of_le_length (by lia),List.drop_of_length_le (by lia)]
  rfl
 obtain ⟨k,rfl⟩:∃k,i=2*k+1:=⟨lx.length-ly.length,by lia⟩
 rw [List.drop_succ_cons,n0] at e5
 have hk:k=lx.length-ly.length:=by lia
 rw [←hk]
 exact wU e5
theorem BQ {lx ly:List Nat} (h:lx.drop (lx.length-ly.length)=ly):∃j,1<=j/\LB (122::dotT lx) (dotT ly) j:=by
 have hl:ly.length<=lx.length:=by
  have:=congrArg List.length h
  rw [List.length_drop] at this
  lia
 refine ⟨2*(lx.length-ly.length)+1,by lia,?_,?_⟩
 ·rw [List.length_cons,bS,bS]; lia
 ·rw [List.drop_succ_cons]
  unfold dotT
  rw [List.drop_append_of_le_length (by rw [jE]; lia),n0,h]
  exact List.take_of_length_le (Nat.le_refl _)
theorem tV (l:List Nat):Txt.startswith (S (46::l)) "." = true:=by
 rw [oQ,AA]
 unfold pW K2
 simp
theorem tA (l:List Nat) (p:List Nat):(p++dotT l).getLastD 0=108:=by
 unfold dotT locL
 rw [List.getLastD_eq_getLast?]
 simp
theorem OG (l:List Nat):gP (S (122::dotT l))=true:=by
 have:=tA l [122]
 exact pN (by rw [show 122::dotT l=[122]++dotT l from rfl,this]; decide) (by decide) (by rw [show 122::dotT l=[122]++dotT l from rfl,this]; decide)
theorem OH (l:List Nat):gP (S ((dotT l).drop 1))=true:=by
 obtain ⟨c,t,e,hc⟩:=tS l
 have h1:(c::t).getLastD 0=108:=by
  have:=tA l []
  rw [List.nil_append,e] at this
  simpa using this
 rw [e]
 exact pN (by rw [h1]; decide) hc (by rw [h1]; decide)
theorem HF {lx ly:List Nat} (hx:∀x∈lx,x<5) (hy:∀x∈ly,x<5):sA (S (122::dotT lx)) (S (dotT ly)) true true=decide (lx.drop (lx.length-ly.length)=ly):=by
 revert lx ly;refine no_implicit_lambda%(hK2 ?_);generalize (HK2 _).1=lx,(HK2 _).2=ly;intro hx hy
 unfold sA
 have h1:(S (122::dotT lx)==S (dotT ly))=false:=by
  rw [j3,beq_eq_false_iff_ne,←iB ly]
  intro h
  injection h with h _
  cases h
 rw [h1,←iB ly,tV,iB ly]
 by_cases h:lx.drop (lx.length-ly.length)=ly
 ·obtain ⟨j,hq⟩:=BQ h; have hj1:=hq.1; have hj:=hq.2
  obtain ⟨i,hq⟩:=rM hj; have e:=hq.1; have hi:=hq.2.1
  rw [e,decide_eq_true h]
  have e1:((i:Int) == -1)=false:=by rw [beq_eq_false_iff_ne]; lia
  have e2:((i:Int)==0)=false:=by rw [beq_eq_false_iff_ne]; lia
  rw [e1,e2]
  rfl
 ·rw [yR fun i hi=>h (DN hx hy hi),decide_eq_false h]
  rfl
theorem N2 {f:Addr} (D:DmAt W f) {A B:List Nat} (hA:∀c∈A,c<128/\c≠10) (hB:∀c∈B,c<128/\c≠10) (lA:A.length<=500) (lB:B.length<=500) (nB:1<=B.length) :
  Fn W (n+3) f [.str (S A),.str (S B)] (.bool (sA (S (A.map lo1)) (S (B.map lo1)) (gP (S (A.map lo1))) (gP (S ((B.map lo1).drop 1))))):=by
 have eA:Txt.lower (S A)=S (A.map lo1):=z7 fun c hc=>(hA c hc).1
 have eB:Txt.lower (S B)=S (B.map lo1):=z7 fun c hc=>(hB c hc).1
 have eS:Txt.slice (S (B.map lo1)) (some 1) none=S ((B.map lo1).drop 1):=x0 (by rw [List.length_map]; exact nB)
 have lo10:∀c,c≠10->lo1 c≠10:=fun c hc=>by
  unfold lo1
  split<;>lia
 have nl:∀l:List Nat,(∀c∈l,c≠10)->LR (S l):=fun l h p hp=>by
  have hs:(S l).cps.size=l.length:=List.size_toArray ..
  rw [hs] at hp
  rw [nS]
  rw [List.getD_eq_getElem?_getD,List.getElem?_eq_getElem hp]
  exact h _ (List.getElem_mem hp)
 have:=EA (W:=W) (n:=n) D (A:=S A) (B:=S B) (by rw [eA,bQ,List.length_map]; lia) (by rw [eB,bQ,List.length_map]; lia) (by rw [eB,eS,bQ,List.length_drop,List.length_map]; lia)
  (by rw [eA]; exact nl _ fun c hc=>by obtain ⟨d,hd,rfl⟩:=List.mem_map.mp hc; exact lo10 d (hA d hd).2)
  (by rw [eB,eS]; exact nl _ fun c hc=>by obtain ⟨d,hd,rfl⟩:=List.mem_map.mp (List.mem_of_mem_drop hc); exact lo10 d (hB d hd).2)
 unfold RC at this
 rw [eA,eB,eS] at this
 exact this
theorem JZ {f:Addr} (D:DmAt W f) {A B:Nat->Nat} {x y:Nat} (hx:A x<32) (hy:A y<32) :
  Fn W (n+3) f [.str (("Z.":Str)++Txt.upper (Txt.join "." (hostOf A B x))),.str ((".":Str)++Txt.join "." (hostOf A B y))] (.bool (told A B x y)):=by
 revert D hx hy;revert W n f A B x y;refine no_implicit_lambda%(hK7 ?_);generalize (HK7 _).1=W,(HK7 _).2.1=n,(HK7 _).2.2.1=f,(HK7 _).2.2.2.1=A,(HK7 _).2.2.2.2.1=B,(HK7 _).2.2.2.2.2.1=x,(HK7 _).2.2.2.2.2.2=y;intro D hx hy
 have lx:∀z∈hl A B x,z<5:=fun z hz=>mR hz
 have ly:∀z∈hl A B y,z<5:=fun z hz=>mR hz
 have ax:=eY lx
 have ay:=eY ly
 have axd:∀c∈(dotT (hl A B x)).drop 1,lQ c:=fun c hc=>ax c (List.mem_of_mem_drop hc)
 have e1:("Z.":Str)++Txt.upper (Txt.join "." (hostOf A B x))=S (90::46::((dotT (hl A B x)).drop 1).map up1):=by
  unfold hostOf
  rw [iZ lx,tY fun c hc=>mG (axd c hc),show ("Z.":Str)=S [90,46] from rfl,fK]
  rfl
 have e2:(".":Str)++Txt.join "." (hostOf A B y)=S (dotT (hl A B y)):=by
  unfold hostOf
  rw [iZ ly,oQ,fK]
  exact congrArg S (iB _)
 have l1:=g5 (B:=B) hx
 have l2:=g5 (B:=B) hy
 rw [e1,e2]
 have:=N2 (W:=W) (n:=n) D (A:=90::46::((dotT (hl A B x)).drop 1).map up1) (B:=dotT (hl A B y)) (fun c hc=>by
   rcases List.mem_cons.mp hc with rfl|hc
   ·decide
   ·rcases List.mem_cons.mp hc with rfl|hc
    ·decide
    ·obtain ⟨d,hd,rfl⟩:=List.mem_map.mp hc
     exact (u6 (axd d hd)).2) (fun c hc=>⟨mG (ay c hc),by have:=ay c hc; unfold lQ at this; lia⟩)
  (by simp only [List.length_cons,List.length_map,List.length_drop,bS]; lia) (by rw [bS]; lia) (by rw [bS]; lia)
 have m1:(90::46::((dotT (hl A B x)).drop 1).map up1).map lo1=122::dotT (hl A B x):=by
  rw [List.map_cons,List.map_cons,sU axd]
  rw [show lo1 90=122 from rfl,show lo1 46=46 from rfl,iB]
 rw [m1,u7 ay,OG,OH,HF lx ly] at this
 have e3:told A B x y=decide ((hl A B x).drop ((hl A B x).length-(hl A B y).length)=hl A B y):=by
  rw [Bool.eq_iff_iff,qY,decide_eq_true_eq]
 rw [e3]
 exact this
end
section
variable {W:Wd} {n:Nat}
theorem ED (a:Str) (ha hb:Bool):sA a a ha hb=true:=by
 unfold sA
 simp
theorem BL {a b:List Nat} (h:a.length≠b.length):(S a==S b)=false:=by
 rw [j3,beq_eq_false_iff_ne]
 intro e
 rw [e] at h
 exact h rfl
theorem EZ {a b:Str} (h:(a==b)=false) (hb:Bool):sA a b false hb=false:=by
 unfold sA
 rw [h]
 rfl
theorem HB {a b:Str} (h:(a==b)=false) (ha:Bool):sA a b ha false=false:=by
 unfold sA
 rw [h]
 simp
theorem L9 {a b:Str} (h:(a==b)=false) (hs:Txt.startswith b "." = false) (ha hb:Bool):sA a b ha hb=false:=by
 unfold sA
 rw [h,hs]
 simp
theorem JV {a b:Str} (h:(a==b)=false) {i:Nat} (hi:1<=i) (hr:Txt.rfind a b=i) (hs:Txt.startswith b "." = true):sA a b true true=true:=by
 unfold sA
 have e1:((i:Int) == -1)=false:=by rw [beq_eq_false_iff_ne]; lia
 have e2:((i:Int)==0)=false:=by rw [beq_eq_false_iff_ne]; lia
 rw [h,hs,hr,e1,e2]
 rfl
noncomputable def yA (l:List Nat):Prop:=∀c∈l,c<128/\c≠10
theorem k6 {a b:List Nat} (ha:yA a) (hb:yA b):yA (a++b):=fun c hc=>(List.mem_append.mp hc).elim (ha c) (hb c)
theorem qU {l:List Nat} (h:∀c∈l,lQ c):yA l:=fun c hc=>⟨mG (h c hc),by have:=h c hc; unfold lQ at this; lia⟩
theorem MU {l:List Nat} (h:∀c∈l,lQ c):yA (l.map up1):=fun c hc=>by
 obtain ⟨d,hd,rfl⟩:=List.mem_map.mp hc
 exact (u6 (h d hd)).2
theorem j8 {f:Addr} (D:DmAt W f) {A B A' B':List Nat} {v:Bool} (hA:yA A) (hB:yA B) (lA:A.length<=500) (lB:B.length<=500) (nB:1<=B.length) (eA:A.map lo1=A') (eB:B.map lo1=B') (hv:sA (S A') (S B') (gP (S A')) (gP (S (B'.drop 1)))=v) :
  Fn W (n+3) f [.str (S A),.str (S B)] (.bool v):=by
 subst eA eB hv
 exact N2 D hA hB lA lB nB
theorem KG {f:Addr} (D:DmAt W f) {l:List Nat} (hl:∀x∈l,x<5) (h5:l.length<=5):NameOk W (n+3) f (n5 (l.map letter++[("local":Str)])):=by
 revert D hl h5;revert W n f l;refine no_implicit_lambda%(hK4 ?_);generalize (HK4 _).1=W,(HK4 _).2.1=n,(HK4 _).2.2.1=f,(HK4 _).2.2.2=l;intro D hl h5
 have al:∀c∈122::dotT l,lQ c:=fun c hc=>by
  rcases List.mem_cons.mp hc with rfl|hc
  ·exact .inr (by decide)
  ·exact eY hl c hc
 have eN:n5 (l.map letter++[("local":Str)])=S (122::dotT l):=by
  unfold n5
  rw [iZ hl,show ("z.":Str)=S [122,46] from rfl,fK]
  exact congrArg S (congrArg (122 :: ·) (iB l))
 have eU:Txt.upper (S (122::dotT l))=S ((122::dotT l).map up1):=tY fun c hc=>mG (al c hc)
 have eL:(122::dotT l).map lo1=122::dotT l:=u7 al
 have eUL:((122::dotT l).map up1).map lo1=122::dotT l:=sU al
 have hz:(122::dotT l).length=2*l.length+7:=by rw [List.length_cons,bS]
 have eSl:Txt.slice (S (122::dotT l)) (some 1) none=S (dotT l):=by
  rw [x0 (by lia)]
  rfl
 have o1:=qU al
 have o2:=MU al
 have m40:([46,52,48]:List Nat).map lo1=[46,52,48]:=by decide
 have o40:yA [46,52,48]:=by unfold yA; decide
 rw [eN]
 refine ⟨by rw [bQ]; lia,by rw [eU,bQ,List.length_map]; lia,?_,?_,?_,?_,?_,?_,?_,?_⟩
 ·rw [eU]
  exact j8 D o1 o2 (by lia) (by rw [List.length_map]; lia) (by rw [List.length_map]; lia) eL eUL (ED _ _ _)
 ·rw [AL]
  exact j8 (B:=locL) D o1 (by unfold yA; decide) (by lia) (by decide) (by decide) eL rfl (L9 (BL (by rw [hz]; show _≠5; lia)) (by decide +kernel) _ _)
 ·rw [show ("y.":Str)=S [121,46] from rfl,fK,show (".z.":Str)=S [46,122,46] from rfl]
  refine j8 (A':=[121,46]++(122::dotT l)) (B':=[46,122,46]) D (k6 (by unfold yA; decide) o1) (by unfold yA; decide) (by rw [List.length_append,hz]; show 2+_<=_; lia) (by decide) (by decide) (by rw [List.map_append,eL]; rfl) (rfl) ?_
  rw [show ([46,122,46]:List Nat).drop 1=[122,46] from rfl,JW (l:=[122,46]) (by decide) rfl]
  exact HB (BL (by rw [List.length_append,hz]; show 2+_≠3; lia)) _
 ·rw [eSl,show (".40":Str)=S [46,52,48] from rfl,fK]
  refine j8 (A':=(122::dotT l)++[46,52,48]) (B':=dotT l) D (k6 o1 o40) (qU (eY hl)) (by rw [List.length_append,hz]; show _+3<=_; lia) (by rw [bS]; lia) (by rw [bS]; lia) (by rw [List.map_append,eL,m40]) (u7 (eY hl)) ?_
  rw [MC]
  exact EZ (BL (by rw [List.length_append,hz,bS]; show _+3≠_; lia)) _
 ·rw [eSl,oQ,fK]
  refine j8 (A':=46::122::dotT l) (B':=dotT l) D (k6 (by unfold yA; decide) o1) (qU (eY hl)) (by rw [List.length_append,hz]; show 1+_<=_; lia) (by rw [bS]; lia) (by rw [bS]; lia) (by rw [List.map_append,eL]; rfl) (u7 (eY hl)) ?_
  rw [KB]
  exact EZ (BL (by rw [List.length_cons,hz,bS]; lia)) _
 ·rw [oQ]
  refine j8 (A':=122::dotT l) (B':=[46]) D o1 (by unfold yA; decide) (by lia) (by decide) (by decide) eL (rfl) ?_
  rw [show ([46]:List Nat).drop 1=[] from rfl,KI]
  exact HB (BL (by rw [hz]; show _≠1; lia)) _
 ·rw [eU,show (".40":Str)=S [46,52,48] from rfl,fK,fK]
  exact j8 D (k6 o1 o40) (k6 o2 o40) (by rw [List.length_append,hz]; show _+3<=_; lia) (by rw [List.length_append,List.length_map,hz]; show _+3<=_; lia) (by rw [List.length_append,List.length_map,hz]; show _<=_+3; lia) (by rw [List.map_append,eL,m40]) (by rw [List.map_append,eUL,m40]) (ED _ _ _)
 ·rw [show (".4.z":Str)=S [46,52,46,122] from rfl,fK,show (".4.Z":Str)=S [46,52,46,90] from rfl]
  refine j8 (A':=(122::dotT l)++[46,52,46,122]) (B':=[46,52,46,122]) D (k6 o1 (by unfold yA; decide)) (by unfold yA; decide) (by rw [List.length_append,hz]; show _+4<=_; lia) (by decide) (by decide) (by rw [List.map_append,eL]; rfl) (rfl) ?_
  have hla:((122::dotT l)++[46,52,46,122]).getLastD 0=122:=by
   rw [List.getLastD_eq_getLast?,List.getLast?_append]
   rfl
  have h1:gP (S ((122::dotT l)++[46,52,46,122]))=true:=by
   rw [List.cons_append] at hla ⊢
   exact pN (by rw [hla]; decide) (by decide) (by rw [hla]; decide)
  have h2:gP (S (([46,52,46,122]:List Nat).drop 1))=true:=pN (c:=52) (l:=[46,122]) (rfl) (by decide) (by decide)
  rw [h1,h2]
  obtain ⟨i,e,hi,_⟩:=rM (x:=(122::dotT l)++[46,52,46,122]) (y:=[46,52,46,122]) (j:=(122::dotT l).length) ⟨by rw [List.length_append]; exact Nat.le_refl _,by rw [List.drop_left]; rfl⟩
  exact JV (BL (by rw [List.length_append,hz]; show _+4≠4; lia)) (by lia) e (tV _)
end
end
section
open PySem PySem.W PySem.Calls PyProof.Rows PySem.SeqAt
section
variable {W:Wd} {n:Nat}
theorem tM (m k:Nat):tb m k=m.testBit k:=by
 unfold tb Nat.testBit
 have h:∀x:Nat,Nat.beq (Nat.land x 1) 1=(1 &&& x != 0):=fun x=>by
  have e:Nat.land x 1=x%2:=Nat.and_one_is_mod x
  have e2:1 &&& x=x%2:=by rw [Nat.and_comm]; exact Nat.and_one_is_mod x
  rw [e,e2]
  rcases Nat.mod_two_eq_zero_or_one x with h|h<;>rw [h]<;>rfl
 exact h _
theorem KO (a b k:Nat):tb (Nat.lor a b) k=(tb a k||tb b k):=by
 rw [tM,tM,tM]
 exact Nat.testBit_or a b k
theorem HQ (a b k:Nat):tb (Nat.land a b) k=(tb a k&&tb b k):=by
 rw [tM,tM,tM]
 exact Nat.testBit_and a b k
theorem lK:∀n,n<32->∀y,y<5->tb (mk y) n=tb n y:=by decide +kernel
theorem iW:∀m,m<32->∀n,n<32->tb (LP m) n = !(Nat.beq (Nat.land m n) 0):=by decide +kernel
theorem qS:∀a:Nat,a<32->∀b:Nat,b<32->Builtin.bitAnd (a:Int) (b:Int)=((Nat.land a b:Nat):Int):=by decide +kernel
theorem uL:∀a:Nat,a<32->∀b:Nat,b<32->Builtin.bitOr (a:Int) (b:Int)=((Nat.lor a b:Nat):Int):=by decide +kernel
theorem tZ:∀a:Nat,a<32->∀b:Nat,b<32->Nat.lor a b<32:=by decide +kernel
section
variable {A B:Nat->Nat} {aL bL:List Int} (hA:∀y,y<5->A y<32) (hB:∀y,y<5->B y<32) (ha:∀y,y<5->aL.getD y 0=(A y:Int)) (hb:∀y,y<5->bL.getD y 0=(B y:Int))
noncomputable def orF (A B:Nat->Nat) (z:Nat):Nat:=Nat.lor (A z) (B z)
include hA in
theorem MT {k:Nat} (hk:k<32):tb (l8 A) k=nU fun y=>tb k y && !(Nat.beq (Nat.land (A y) k) 0):=by
 unfold l8 CX nU
 simp only [KO,HQ]
 rw [lK k hk 0 (by decide),lK k hk 1 (by decide),lK k hk 2 (by decide),lK k hk 3 (by decide),lK k hk 4 (by decide),
  iW _ (hA 0 (by decide)) k hk,iW _ (hA 1 (by decide)) k hk,iW _ (hA 2 (by decide)) k hk,iW _ (hA 3 (by decide)) k hk,iW _ (hA 4 (by decide)) k hk]
theorem K4 {C:Nat->Nat} (hC:∀y,y<5->C y<32) {k:Nat} (hk:k<32):tb (m7 C) k=uC fun z=>tb k z || !(Nat.beq (Nat.land (C z) k) 0):=by
 unfold m7 C9 uC
 simp only [KO,HQ]
 rw [lK k hk 0 (by decide),lK k hk 1 (by decide),lK k hk 2 (by decide),lK k hk 3 (by decide),lK k hk 4 (by decide),
  iW _ (hC 0 (by decide)) k hk,iW _ (hC 1 (by decide)) k hk,iW _ (hC 2 (by decide)) k hk,iW _ (hC 3 (by decide)) k hk,iW _ (hC 4 (by decide)) k hk]
include hA ha in
theorem A2:∀(l:List Nat) (f:Nat),(∀y∈l,y<5)->f<32->cQ aL l (f:Int)=((l.foldl (fun f y=>Nat.lor f (A y)) f:Nat):Int)/\l.foldl (fun f y=>Nat.lor f (A y)) f<32
 | [],f,_,hf=>⟨rfl,hf⟩
 | y::l,f,hl,hf=>by
  have hy:=hl y List.mem_cons_self
  have:=A2 l (Nat.lor f (A y)) (fun z hz=>hl z (List.mem_cons_of_mem _ hz)) (tZ _ hf _ (hA y hy))
  rw [cQ,ha y hy,uL _ hf _ (hA y hy),List.foldl_cons]
  exact this
include hA hB ha hb in
theorem FH {k:Nat} (hk:k<32):eR aL bL k=iE A (l8 A) (m7 (orF A B)) k:=by
 revert hA hB ha hb hk;revert A B aL bL k;refine no_implicit_lambda%(hK5 ?_);generalize (HK5 _).1=A,(HK5 _).2.1=B,(HK5 _).2.2.1=aL,(HK5 _).2.2.2.1=bL,(HK5 _).2.2.2.2=k;intro hA hB ha hb hk
 have hC:∀y,y<5->orF A B y<32:=fun y hy=>tZ _ (hA y hy) _ (hB y hy)
 have h1:(wW aL k).isEmpty = !tb (l8 A) k:=by
  unfold wW
  rw [eV,MT hA hk,fY _ hk]
  congr 1
  rw [Bool.eq_iff_iff,List.any_eq_true,dM]
  constructor
  ·rintro ⟨y,hy,h⟩
   obtain ⟨h5,ht⟩:=d6.mp hy
   rw [ha y h5,qS _ (hA y h5) _ hk] at h
   refine ⟨y,h5,?_⟩
   rw [ht,Bool.true_and,Bool.not_eq_true']
   cases hq:Nat.beq (Nat.land (A y) k) 0 with
   | false=>rfl
   | true=>rw [dT.mp hq] at h; cases h
  ·rintro ⟨y,h5,h⟩
   rw [Bool.and_eq_true,Bool.not_eq_true'] at h
   refine ⟨y,d6.mpr ⟨h5,h.1⟩,?_⟩
   rw [ha y h5,qS _ (hA y h5) _ hk,bne_iff_ne]
   intro z
   have:Nat.land (A y) k=0:=by lia
   rw [this] at h
   cases h.2
 have h2:(rK aL bL k).isEmpty=tb (m7 (orF A B)) k:=by
  unfold rK
  rw [eV,K4 hC hk,fY _ hk,Bool.eq_iff_iff,Bool.not_eq_true',List.any_eq_false,jF]
  have key:∀z,z<5->((!(iJ k).contains z&&Builtin.bitAnd (Builtin.bitOr (aL.getD z 0) (bL.getD z 0)) (k:Int)==0)=true↔¬(tb k z || !(Nat.beq (Nat.land (orF A B z) k) 0))=true):=fun z hz=>by
   rw [ha z hz,hb z hz,uL _ (hA z hz) _ (hB z hz),show Nat.lor (A z) (B z)=orF A B z from rfl,qS _ (hC z hz) _ hk]
   have e1:(iJ k).contains z=tb k z:=by
    rw [Bool.eq_iff_iff,List.contains_iff_mem,d6]
    exact ⟨fun h=>h.2,fun h=>⟨hz,h⟩⟩
   rw [e1]
   have e2:((((Nat.land (orF A B z) k:Nat):Int))==0)=Nat.beq (Nat.land (orF A B z) k) 0:=by
    rw [Bool.eq_iff_iff,beq_iff_eq,dT]
    lia
   rw [e2]
   cases tb k z<;>cases Nat.beq (Nat.land (orF A B z) k) 0<;>decide
  constructor
  ·intro h z hz
   have:=h z (List.mem_range.mpr hz)
   rw [key z hz] at this
   exact Decidable.not_not.mp this
  ·intro h z hz
   have hz:=List.mem_range.mp hz
   rw [key z hz]
   exact fun q=>q (h z hz)
 have h3:=A2 hA ha (iJ k) 0 (fun y hy=>(d6.mp hy).1) (by decide)
 unfold eR iE
 rw [h1,h2]
 cases tb (l8 A) k with
 | true=>rfl
 | false =>
  cases tb (m7 (orF A B)) k with
  | false=>rfl
  | true =>
   show some ((aK (cQ aL (aK (k:Int)) 0)).length,aK (k:Int))=some _
   rw [fY _ hk]
   have e:cQ aL (iJ k) 0=(((iJ k).foldl (fun f y=>Nat.lor f (A y)) 0:Nat):Int):=h3.1
   rw [e,fY _ h3.2,←mC _ h3.2]
theorem xB {α β:Type} {f g:α->Option β}:∀ {l:List α},(∀x∈l,f x=g x)->l.filterMap f=l.filterMap g
 | [],_=>rfl
 | a::l,h=>by rw [List.filterMap_cons,List.filterMap_cons,h a List.mem_cons_self,xB fun x hx=>h x (List.mem_cons_of_mem _ hx)]
include hA hB ha hb in
theorem IO:pS aL bL=r31.filterMap (iE A (l8 A) (m7 (orF A B))):=by
 unfold pS
 rw [show (List.range 31).map (· + 1)=r31 from rfl]
 refine xB fun k hk=>?_
 have:∀k∈r31,k<32:=by decide
 exact FH hA hB ha hb (this k hk)
end
theorem AO:∀ {l:List (Nat×List Nat)},BP l=true->l.Pairwise (fun p q=>p.1<q.1)
 | [],_=>List.Pairwise.nil
 | [p],_=>List.pairwise_singleton _ _
 | p::q::l,h=>by
  have h:=Bool.and_eq_true_iff.mp (show (Nat.blt p.1 q.1&&BP (q::l))=true from h)
  have h1:=gF.mp h.1
  have ih:=AO h.2
  refine List.pairwise_cons.mpr ⟨fun r hr=>?_,ih⟩
  rcases List.mem_cons.mp hr with rfl|hr
  ·exact h1
  ·exact Nat.lt_trans h1 ((List.pairwise_cons.mp ih).1 r hr)
theorem HJ:∀ {l:List (Nat×List Nat)},l.Pairwise (fun p q=>p.1<q.1)->∀p∈l,∀q∈l,p.1=q.1->p=q
 | [],_,p,hp,_,_,_=>nomatch hp
 | r::l,h,p,hp,q,hq,e=>by
  rw [List.pairwise_cons] at h
  rcases List.mem_cons.mp hp with e1|m1<;>rcases List.mem_cons.mp hq with e2|m2
  ·rw [e1,e2]
  ·exact absurd (e1▸e) (Nat.ne_of_lt (h.1 q m2))
  ·exact absurd (e2▸e).symm (Nat.ne_of_lt (h.1 p m1))
  ·exact HJ h.2 p m1 q m2 e
theorem AP:∀ {l:List (Nat×List Nat)} {m:List (List Nat)},CZ l m=true->l.map (fun p=>p.2)=m
 | [],[],_=>rfl
 | [],_::_,h=>jD h
 | _::_,[],h=>jD h
 | p::l,x::m,h=>by
  have h:=Bool.and_eq_true_iff.mp (show (leq p.2 x&&CZ l m)=true from h)
  rw [List.map_cons,vH h.1,AP h.2]
theorem FT {p q:Nat×List Nat} (h:p.1=q.1->p=q):DU (cU p) (cU q)=some (decide (p.1<q.1)):=by
 by_cases e:p.1=q.1
 ·rw [←h e,decide_eq_false (Nat.lt_irrefl _)]
  exact qR (show g6 6 (namesL p.2) (namesL p.2)=true from rR 5 _ _)
 ·exact (uQ fun z=>e (Int.ofNat.inj z)).trans (congrArg some (decide_eq_decide.mpr Int.ofNat_lt))
theorem IG {f fM:Addr} {A B:Nat->Nat} {aL bL:List Int} {ls:List (List Nat)} (D:DefAt W f (aT 20) ["ahead","behind"]) (G:Glb W) (NM:FnName W "_law_members" fM) (DM:DefAt W fM (aT 17) ["number"])
  (la:aL.length=5) (lb:bL.length=5) (hA:∀y,y<5->A y<32) (hB:∀y,y<5->B y<32) (ha:∀y,y<5->aL.getD y 0=(A y:Int)) (hb:∀y,y<5->bL.getD y 0=(B y:Int))
  (h1:BP (dC (fun p=>p.1) (r31.filterMap (iE A (l8 A) (m7 (orF A B)))))=true) (h2:CZ (dC (fun p=>p.1) (r31.filterMap (iE A (l8 A) (m7 (orF A B))))) ls=true) (h5:ls.length<=5) :
  Fn W (n+4) f [aG aL,aG bL] (BG ls):=by
 rw [gA] at h1 h2
 have e2:=AP h2
 have hlen:(r31.filterMap (iE A (l8 A) (m7 (orF A B)))).length=ls.length:=by
  rw [←e2,List.length_map,g8]
 have hpw:=HJ (AO h1)
 have hs:eO ((pS aL bL).map cU)=some ((dI (fun p=>p.1) (r31.filterMap (iE A (l8 A) (m7 (orF A B))))).map cU):=by
  rw [IO hA hB ha hb]
  exact jV cU (fun p=>p.1) _ (by lia) fun p hp q hq=>FT fun e=>hpw p ((eW _ _ _).mpr hp) q ((eW _ _ _).mpr hq) e
 have:=BK (n:=n) D G NM DM la lb hs (by rw [g8]; lia)
 have e3:BG ls=.list ((dI (fun p=>p.1) (r31.filterMap (iE A (l8 A) (m7 (orF A B))))).map fun p=>.tuple (namesL p.2)):=by
  rw [←e2]
  show Dat.list _=Dat.list _
  rw [List.map_map]
  rfl
 rw [e3]
 exact this
end
section
variable {W:Wd} {n:Nat}
theorem CB (m:List Nat) (ls:List (List Nat)) (y:Nat):eC (m::ls) y=(if m.contains y=true then [0] else [])++(eC ls y).map (· + 1):=by
 unfold eC
 simp only [List.length_cons,List.range_succ_eq_map,List.filter_cons,List.filter_map]
 have e:(List.range ls.length).filter ((fun k=>((m::ls).getD k []).contains y)∘Nat.succ)=(List.range ls.length).filter fun k=>(ls.getD k []).contains y:=List.filter_congr fun k hk=>by
  show (((m::ls).getD (k+1) []).contains y)=_
  rw [List.getD_cons_succ]
 rw [e]
 show (if m.contains y=true then 0::_ else _)=_
 split<;>rfl
theorem v8 (y:Nat):∀(ls:List (List Nat)) (k:Nat),l7 y ls k=(eC ls y).map (· + k)
 | [],k=>rfl
 | m::ls,k=>by
  show (match elemB y m with|true=>k::l7 y ls (Nat.succ k)|false=>l7 y ls (Nat.succ k))=_
  simp only [CB,rA,v8 y ls (Nat.succ k),List.map_append,List.map_map]
  have e:((fun x=>x+k)∘fun x=>x+1)=fun x=>x+Nat.succ k:=by
   funext x
   show x+1+k=x+(k+1)
   lia
  rw [e]
  cases m.contains y with
  | true=>simp
  | false=>simp
theorem J6 (y:Nat) (ls:List (List Nat)):l7 y ls 0=eC ls y:=by
 rw [v8]
 simp
theorem uX:∀(a k:Nat),rZ a k=(List.range k).map fun i=>a+i
 | a,0=>rfl
 | a,k+1=>by
  rw [show rZ a (k+1)=a::rZ (Nat.succ a) k from rfl,uX (Nat.succ a) k,List.range_succ_eq_map,List.map_cons,List.map_map]
  congr 1
  refine List.map_congr_left fun i _=>?_
  show a+1+i=a+(i+1)
  lia
theorem BN (a k:Nat):natsD (rZ a k)=cG a 1 k:=by
 rw [uX]
 unfold natsD cG
 rw [List.map_map]
 refine List.map_congr_left fun i _=>?_
 show Dat.int ((a+i:Nat):Int)=Dat.int ((a:Int)+(i:Int)*1)
 congr 1
 lia
theorem tT (a k:Nat):(rZ a (k+1)).headD 0=a:=rfl
theorem tE (a k:Nat):(rZ a (k+1)).getLastD 0=a+k:=by
 simp only [uX,List.getLastD_eq_getLast?,List.getLast?_eq_getElem?]
 simp
theorem ML (x y:Nat) (l:List Nat):i8 x (y::l)=match Nat.beq y x with|true=>y::l|false=>match Nat.blt y x with|true=>y::i8 x l|false=>x::y::l:=rfl
theorem pJ {l:List Nat} (x:Nat) (h:l.Pairwise (· < ·)):(i8 x l).Pairwise (· < ·)/\∀z,z∈i8 x l↔z=x\/z∈l:=by
 induction l with
 | nil=>exact ⟨List.pairwise_singleton _ _,fun z=>List.mem_cons⟩
 | cons y l ih =>
  have h':=List.pairwise_cons.mp h
  rw [ML]
  cases h1:Nat.beq y x with
  | true=>exact ⟨h,fun z=>⟨.inr,fun q=>q.elim (fun e=>e.trans (dT.mp h1).symm▸List.mem_cons_self) id⟩⟩
  | false =>
   cases h2:Nat.blt y x with
   | true =>
    have hq:=ih h'.2
    refine ⟨List.pairwise_cons.mpr ⟨fun z hz=>((hq.2 z).mp hz).elim (fun e=>e▸gF.mp h2) (h'.1 z),hq.1⟩,fun z=>?_⟩
    refine List.mem_cons.trans ((or_congr_right (hq.2 z)).trans (or_left_comm.trans (or_congr_right List.mem_cons.symm)))
   | false =>
    have hlt:x<y:=Nat.lt_of_le_of_ne (Nat.le_of_not_lt fun q=>jD (h2.symm.trans (gF.mpr q))) fun e=>jD (h1.symm.trans (dT.mpr e.symm))
    exact ⟨List.pairwise_cons.mpr ⟨fun z hz=>(List.mem_cons.mp hz).elim (fun e=>e▸hlt) fun hz=>Nat.lt_trans hlt (h'.1 z hz),h⟩,fun z=>List.mem_cons⟩
noncomputable def A4 (A:Nat->Nat):List Nat:=i8 (A 0) (i8 (A 1) (i8 (A 2) (i8 (A 3) [A 4])))
theorem FG (A:Nat->Nat):(A4 A).Pairwise (· < ·)/\∀z,z∈A4 A↔∃y,y<5/\z=A y:=by
 revert A;refine no_implicit_lambda%(hK ?_);generalize HK _=A
 obtain ⟨p3,m3⟩:=pJ (l:=[A 4]) (A 3) (List.pairwise_singleton _ _)
 obtain ⟨p2,m2⟩:=pJ (A 2) p3
 obtain ⟨p1,m1⟩:=pJ (A 1) p2
 obtain ⟨p0,m0⟩:=pJ (A 0) p1
 refine ⟨p0,fun z=>?_⟩
 unfold A4
 rw [m0,m1,m2,m3,List.mem_singleton]
 constructor
 ·rintro (h|h|h|h|h)
  ·exact ⟨0,by decide,h⟩
  ·exact ⟨1,by decide,h⟩
  ·exact ⟨2,by decide,h⟩
  ·exact ⟨3,by decide,h⟩
  ·exact ⟨4,by decide,h⟩
 ·rintro ⟨y,hy,h⟩
  rcases (by lia:y=0\/y=1\/y=2\/y=3\/y=4) with rfl|rfl|rfl|rfl|rfl
  ·exact .inl h
  ·exact .inr (.inl h)
  ·exact .inr (.inr (.inl h))
  ·exact .inr (.inr (.inr (.inl h)))
  ·exact .inr (.inr (.inr (.inr h)))
theorem kO:∀(l:List Nat) (x:Nat),(i8 x l).length<=l.length+1
 | [],x=>Nat.le_refl _
 | y::l,x=>by
  show (match Nat.beq y x with|true=>y::l|false=>match Nat.blt y x with|true=>y::i8 x l|false=>x::y::l).length<=_
  cases Nat.beq y x with
  | true=>show (y::l).length<=_; lia
  | false =>
   cases Nat.blt y x with
   | true =>
    have:=kO l x
    show (i8 x l).length+1<=l.length+1+1
    lia
   | false=>exact Nat.le_refl _
theorem H4 (A:Nat->Nat):(A4 A).length<=5:=
 Nat.le_trans (kO _ _) (Nat.succ_le_succ (Nat.le_trans (kO _ _) (Nat.succ_le_succ (Nat.le_trans (kO _ _) (Nat.succ_le_succ (kO [A 4] (A 3)))))))
theorem IL {l m:List Int} (h1:l.Nodup) (h2:m.Nodup) (h:∀z,z∈l↔z∈m):l.Perm m:=(List.perm_ext_iff_of_nodup h1 h2).mpr h
theorem KC {s:List Int} {a:Int} (h:s.Nodup):(step_dedup s a).Nodup/\∀z,z∈step_dedup s a↔z∈s\/z=a:=by
 delta step_dedup
 by_cases hc:s.any (fun x=>x==a)=true
 ·rw [if_pos hc]
  refine ⟨h,fun z=>⟨.inl,fun q=>q.elim id fun e=>?_⟩⟩
  exact (List.any_eq_true.mp hc).elim fun x hx=>e▸eq_of_beq hx.2▸hx.1
 ·rw [if_neg hc]
  refine ⟨?_,fun z=>by rw [List.mem_append,List.mem_singleton]⟩
  rw [List.nodup_append]
  exact ⟨h,List.pairwise_singleton _ a,fun x hx y hy e=>hc (List.any_eq_true.mpr ⟨x,hx,beq_iff_eq.mpr (e.trans (List.mem_singleton.mp hy))⟩)⟩
theorem HU (l:List Int):∀(s:List Int),s.Nodup->(l.foldl step_dedup s).Nodup/\∀z,z∈l.foldl step_dedup s↔z∈s\/z∈l:=by
 induction l with
 | nil=>exact fun s h=>⟨h,fun z=>⟨.inl,fun q=>q.elim id fun m=>nomatch m⟩⟩
 | cons a l ih =>
  intro s h
  have hs:=KC (a:=a) h
  have hq:=ih _ hs.1
  exact ⟨hq.1,fun z=>(hq.2 z).trans ((or_congr_left (hs.2 z)).trans (or_assoc.trans (or_congr_right List.mem_cons.symm)))⟩
theorem pP {A:Nat->Nat} {aL:List Int} (la:aL=(List.range 5).map fun y=>(A y:Int)):(gL aL).Perm ((A4 A).map fun (x:Nat)=>(x:Int))/\((A4 A).map fun (x:Nat)=>(x:Int)).Pairwise (· <= ·):=by
 obtain ⟨p,m⟩:=FG A
 obtain ⟨d1,d2⟩:=HU aL [] List.nodup_nil
 have pm:((A4 A).map fun (x:Nat)=>(x:Int)).Pairwise (· < ·):=List.pairwise_map.mpr (p.imp fun h=>by lia)
 refine ⟨IL d1 (pm.imp fun h=>by lia) fun z=>?_,pm.imp fun h=>by lia⟩
 unfold gL
 rw [d2,la]
 constructor
 ·rintro (h|h)
  ·cases h
  ·obtain ⟨y,hy,rfl⟩:=List.mem_map.mp h
   exact List.mem_map.mpr ⟨A y,(m _).mpr ⟨y,List.mem_range.mp hy,rfl⟩,rfl⟩
 ·intro h
  obtain ⟨x,hx,rfl⟩:=List.mem_map.mp h
  obtain ⟨y,hy,rfl⟩:=(m x).mp hx
  exact .inr (List.mem_map.mpr ⟨y,List.mem_range.mpr hy,rfl⟩)
theorem MN {l:List Nat} {a:Nat}:a∈l->l[xK a l]? = some a/\∀i b,i<xK a l->l[i]? = some b->b≠a:=by
 induction l with
 | nil=>exact fun h=>nomatch h
 | cons x l ih =>
  intro h
  rw [show xK a (x::l)=match Nat.beq x a with|true=>0|false=>Nat.succ (xK a l) from rfl]
  cases hx:Nat.beq x a with
  | true=>exact ⟨congrArg some (dT.mp hx),fun i b hi _=>absurd hi (Nat.not_lt_zero _)⟩
  | false =>
   have hne:x≠a:=fun e=>jD (hx.symm.trans (dT.mpr e))
   have hq:=ih ((List.mem_cons.mp h).elim (fun e=>absurd e.symm hne) id)
   refine ⟨hq.1,fun i b hi hb=>?_⟩
   cases i with
   | zero=>exact Option.some.inj hb▸hne
   | succ i=>exact hq.2 i b (Nat.lt_of_succ_lt_succ hi) hb
theorem vW {A:Nat->Nat} {aL:List Int} (ha:∀y,y<5->aL.getD y 0=(A y:Int)) {y:Nat} (hy:y<5):PlaceOf ((A4 A).map fun (x:Nat)=>(x:Int)) (aL.getD y 0) (xK (A y) (A4 A)):=by
 have hq:=FG A; have m:=hq.2
 obtain ⟨q1,q2⟩:=MN ((m (A y)).mpr ⟨y,hy,rfl⟩)
 rw [ha y hy]
 refine ⟨by rw [List.getElem?_map,q1]; rfl,fun i b hi hb=>?_⟩
 rw [List.getElem?_map] at hb
 obtain ⟨x,hx,rfl⟩:=Option.map_eq_some_iff.mp hb
 have:=q2 i x hi hx
 lia
theorem uK:∀m:Nat,m<32->∀k,k<5->wB (m:Int) k=if tb m k=true then 1 else 0:=by decide +kernel
theorem F3:∀c,c<32->∀x,x<5->∀y,y<5->tb (NA c x) y=(y != x && !tb c y):=by decide +kernel
theorem L6:∀c,c<32->∀x,x<5->NA c x<32:=by decide +kernel
theorem LD:∀m,m<32->∀p,p<32->Nat.beq (Nat.land m p) 0 = !(nU fun z=>tb p z&&tb m z):=by decide +kernel
section
variable {A B:Nat->Nat} {aL bL:List Int} (hA:∀y,y<5->A y<32) (hB:∀y,y<5->B y<32) (ha:∀y,y<5->aL.getD y 0=(A y:Int)) (hb:∀y,y<5->bL.getD y 0=(B y:Int))
include hA hB ha hb in
theorem pO {x y:Nat} (hx:x<5):y∈bB aL bL x↔y<5/\tb (NA (orF A B x) x) y=true:=by
 have hc:orF A B x<32:=tZ _ (hA x hx) _ (hB x hx)
 unfold bB
 simp only [List.mem_filter,List.mem_range,ha x hx,hb x hx,uL _ (hA x hx) _ (hB x hx),show Nat.lor (A x) (B x)=orF A B x from rfl]
 constructor
 ·rintro ⟨h1,h2⟩
  refine ⟨h1,?_⟩
  rw [F3 _ hc x hx y h1]
  rw [uK _ hc y h1] at h2
  rw [Bool.and_eq_true] at h2 ⊢
  refine ⟨h2.1,?_⟩
  cases ht:tb (orF A B x) y with
  | false=>rfl
  | true=>rw [ht] at h2; exact absurd h2.2 (by decide)
 ·rintro ⟨h1,h2⟩
  refine ⟨h1,?_⟩
  rw [F3 _ hc x hx y h1,Bool.and_eq_true,Bool.not_eq_true'] at h2
  rw [uK _ hc y h1,h2.2,Bool.and_eq_true]
  exact ⟨h2.1,rfl⟩
include hA hB ha hb in
theorem vJ {x y:Nat} {cL:List Int} {D:Nat->Nat} (hD:∀y,y<5->D y<32) (hd:∀y,y<5->cL.getD y 0=(D y:Int)) (hx:x<5) (hy:y<5):(mP aL bL cL x y).isEmpty=Nat.beq (Nat.land (D y) (NA (orF A B x) x)) 0:=by
 have hc:orF A B x<32:=tZ _ (hA x hx) _ (hB x hx)
 unfold mP
 rw [eV,LD _ (hD y hy) _ (L6 _ hc x hx)]
 congr 1
 rw [Bool.eq_iff_iff,List.any_eq_true,dM]
 constructor
 ·rintro ⟨z,hz,h⟩
  obtain ⟨h5,ht⟩:=(pO hA hB ha hb hx).mp hz
  rw [hd y hy,uK _ (hD y hy) z h5] at h
  refine ⟨z,h5,?_⟩
  rw [ht,Bool.true_and]
  cases hq:tb (D y) z with
  | true=>rfl
  | false=>rw [hq] at h; exact absurd h (by decide)
 ·rintro ⟨z,h5,h⟩
  rw [Bool.and_eq_true] at h
  refine ⟨z,(pO hA hB ha hb hx).mpr ⟨h5,h.1⟩,?_⟩
  rw [hd y hy,uK _ (hD y hy) z h5,h.2]
  rfl
include hA hB ha hb in
theorem JM:(dP aL bL 5).isEmpty = !MZ A B (orF A B):=by
 revert A B aL bL;refine no_implicit_lambda%(hK4 ?_);generalize (HK4 _).1=A,(HK4 _).2.1=B,(HK4 _).2.2.1=aL,(HK4 _).2.2.2=bL;intro hA hB ha hb
 rw [Bool.eq_iff_iff,List.isEmpty_iff,Bool.not_eq_true',←Bool.not_eq_true]
 have key:MZ A B (orF A B)=true↔∃x,x<5/\∃y,y∈bB aL bL x/\j7 aL bL x y=true:=by
  unfold MZ
  rw [dM]
  constructor
  ·rintro ⟨x,hx,h⟩
   rw [gB] at h
   obtain ⟨y,hq⟩:=dM.mp h; have hy:=hq.1; have h:=hq.2
   rw [Bool.and_eq_true] at h
   refine ⟨x,hx,y,(pO hA hB ha hb hx).mpr ⟨hy,h.1⟩,?_⟩
   unfold j7
   rw [vJ hA hB ha hb hA ha hx hy,vJ hA hB ha hb hB hb hx hy]
   exact h.2
  ·rintro ⟨x,hx,y,hy,h⟩
   obtain ⟨h5,ht⟩:=(pO hA hB ha hb hx).mp hy
   refine ⟨x,hx,?_⟩
   rw [gB]
   refine dM.mpr ⟨y,h5,?_⟩
   unfold j7 at h
   rw [vJ hA hB ha hb hA ha hx h5,vJ hA hB ha hb hB hb hx h5] at h
   rw [ht,h]
   rfl
 rw [key]
 constructor
 ·rintro h ⟨x,hx,y,hy,ht⟩
  have:(x,y)∈dP aL bL 5:=List.mem_flatMap.mpr ⟨x,List.mem_range.mpr hx,List.mem_map.mpr ⟨y,List.mem_filter.mpr ⟨hy,ht⟩,rfl⟩⟩
  rw [h] at this
  cases this
 ·intro h
  rw [List.eq_nil_iff_forall_not_mem]
  intro p hp
  obtain ⟨x,hx,hp⟩:=List.mem_flatMap.mp hp
  obtain ⟨y,hy,rfl⟩:=List.mem_map.mp hp
  obtain ⟨h1,h2⟩:=List.mem_filter.mp hy
  exact h ⟨x,List.mem_range.mp hx,y,h1,h2⟩
end
end
end
section
open PySem PySem.W PySem.Calls PyProof.Rows PySem.SeqAt
open Builtin.Str StrLaws
section
variable {W:Wd} {n:Nat}
noncomputable def FL:List Nat:=[70,76,65,71,83,32,40]
noncomputable def eK (l:List Nat):Bool:=leq (l.take 7) FL&&elemB 41 (l.drop 7)
theorem kR (f:Nat->Bool) (l:List Nat):∀(n p:Nat),p+n=l.length->iL f l.toArray p n=((l.drop p).takeWhile f).length
 | 0,p,h=>by
  rw [List.drop_of_length_le (show l.length<=p from Nat.le_of_eq h.symm)]
  rfl
 | n+1,p,h=>by
  have hp:p<l.length:=h▸Nat.lt_add_of_pos_right (Nat.succ_pos n)
  rw [List.drop_eq_getElem_cons hp,qO]
  have e:l.toArray.getD p 0=l[p]:=by simp [Array.getD,hp]
  rw [e,List.takeWhile_cons]
  cases f l[p] with
  | true=>rw [if_pos rfl,if_pos rfl,kR f l n (p+1) ((Nat.add_right_comm p 1 n).trans h)]; rfl
  | false=>rw [if_neg (by decide),if_neg (by decide)]; rfl
theorem J8 (l:List Nat) (r:Nat):M7 l.toArray r↔(l.drop r).take 7=FL:=by
 revert l r;refine no_implicit_lambda%(hK2 ?_);generalize (HK2 _).1=l,(HK2 _).2=r
 unfold M7
 have hs:l.toArray.size=l.length:=List.size_toArray ..
 rw [hs]
 constructor
 ·intro h
  apply List.ext_getElem
  ·have:=(h 6 (by decide)).1
   rw [List.length_take,List.length_drop]
   exact Nat.min_eq_left (Nat.le_sub_of_add_le' this)
  ·intro j h1 h2
   have hj:j<7:=h2
   obtain ⟨q1,q2⟩:=h j hj
   rw [List.getElem_take,List.getElem_drop]
   have e:l.toArray.getD (r+j) 0=l[r+j]:=by simp [Array.getD,q1]
   rw [e] at q2
   rw [q2]
   rcases (by lia:j=0\/j=1\/j=2\/j=3\/j=4\/j=5\/j=6) with rfl|rfl|rfl|rfl|rfl|rfl|rfl<;>rfl
 ·intro h j hj
  have hl:=congrArg List.length h
  rw [List.length_take,List.length_drop] at hl
  have hl:min 7 (l.length-r)=7:=hl
  have q1:r+j<l.length:=Nat.add_lt_of_lt_sub' (Nat.lt_of_lt_of_le hj (Nat.le_trans (Nat.le_of_eq hl.symm) (Nat.min_le_right _ _)))
  refine ⟨q1,?_⟩
  have e:l.toArray.getD (r+j) 0=l[r+j]:=by simp [Array.getD,q1]
  rw [e]
  have e2:((l.drop r).take 7)[j]? = some l[r+j]:=by
   rw [List.getElem?_take_of_lt hj,List.getElem?_drop,List.getElem?_eq_getElem q1]
  rw [h] at e2
  rcases (by lia:j=0\/j=1\/j=2\/j=3\/j=4\/j=5\/j=6) with rfl|rfl|rfl|rfl|rfl|rfl|rfl<;>exact (Option.some.inj e2).symm
theorem KK:∀l:List Nat,(l.takeWhile iK).length<l.length↔41∈l
 | []=>by simp
 | a::l=>by
  rw [List.takeWhile_cons]
  unfold iK
  by_cases h:a=41
  ·subst h; simp
  ·rw [if_pos (by simpa using h),List.length_cons,List.length_cons,Nat.add_lt_add_iff_right,List.mem_cons]
   have:=KK l
   unfold iK at this
   rw [this]
   constructor
   ·exact .inr
   ·rintro (e|e)
    ·exact absurd e.symm h
    ·exact e
theorem PY {r n:Nat} (h:7<=n-r):r+7<=n:=by omega
theorem iA (l:List Nat) (r:Nat):gQ l.toArray r↔eK (l.drop r)=true:=by
 unfold gQ eK
 have hs:l.toArray.size=l.length:=List.size_toArray ..
 rw [Bool.and_eq_true,jM,i3,J8,List.drop_drop]
 refine and_congr_right fun h=>?_
 have hl:=congrArg List.length h
 rw [List.length_take,List.length_drop] at hl
 have hl:min 7 (l.length-r)=7:=hl
 unfold rH
 have h7:r+7<=l.length:=PY (Nat.le_trans (Nat.le_of_eq hl.symm) (Nat.min_le_right _ _))
 rw [hs,kR iK l _ (r+7) (Nat.add_sub_cancel' h7),←KK,List.length_drop]
 exact ⟨fun q=>Nat.lt_sub_of_add_lt (Nat.add_comm _ _▸q),fun q=>Nat.add_comm _ _▸Nat.add_lt_of_lt_sub q⟩
theorem GH {α:Type} {f:α->Bool}:∀ {l:List α},(∀c∈l,f c=true)->l.takeWhile f=l
 | [],_=>rfl
 | a::l,h=>by rw [List.takeWhile_cons,if_pos (h a List.mem_cons_self),GH fun c hc=>h c (List.mem_cons_of_mem _ hc)]
theorem xM {l:List Nat} (h:∀c∈l,c≠10):jR l.toArray=l.length:=by
 unfold jR
 have hs:l.toArray.size=l.length:=List.size_toArray ..
 rw [hs,kR _ l l.length 0 (Nat.zero_add _),List.drop_zero,GH fun c hc=>by simpa using h c hc]
theorem BI:∀ {body:List Nat} (post:List Nat),41∉body->(body++41::post).takeWhile iK=body
 | [],post,_=>by simp [iK]
 | a::body,post,h=>by
  have ha:a≠41:=fun e=>h (by rw [e]; exact List.mem_cons_self)
  rw [List.cons_append,List.takeWhile_cons,if_pos (by unfold iK; simpa using ha),BI post fun q=>h (List.mem_cons_of_mem _ q)]
theorem FO {pre body post:List Nat} (hb:41∉body) (hn:∀c∈pre++(FL++(body++41::post)),c≠10) (hlater:∀k,1<=k->k<=(FL++(body++41::post)).length->eK ((FL++(body++41::post)).drop k)=false) :
  gY (pre++(FL++(body++41::post))).toArray (some pre.length)/\rH (pre++(FL++(body++41::post))).toArray pre.length=body.length:=by
 refine ⟨⟨?_,?_,fun r h1 h2=>?_⟩,?_⟩
 ·rw [xM hn,List.length_append]
  exact Nat.le_add_right _ _
 ·rw [iA,List.drop_left]
  unfold eK
  rw [Bool.and_eq_true,jM,i3]
  refine ⟨by rw [List.take_append_of_le_length (by decide)]; rfl,?_⟩
  rw [show 7=FL.length from rfl,List.drop_left]
  exact List.mem_append.mpr (.inr List.mem_cons_self)
 ·rw [xM hn,List.length_append] at h2
  rw [iA]
  obtain ⟨k,rfl⟩:∃k,r=pre.length+k:=⟨r-pre.length,(Nat.add_sub_cancel' (Nat.le_of_lt h1)).symm⟩
  rw [List.drop_append]
  rw [List.drop_of_length_le (by lia),List.nil_append,Nat.add_sub_cancel_left,hlater k (by lia) (by lia)]
  decide
 ·unfold rH
  have hs:(pre++(FL++(body++41::post))).toArray.size=(pre++(FL++(body++41::post))).length:=List.size_toArray ..
  rw [hs,kR iK _ _ (pre.length+7) (by rw [List.length_append,List.length_append]; exact Nat.add_sub_cancel' (Nat.add_le_add_left (Nat.le_add_right 7 _) _))]
  rw [←List.drop_drop,List.drop_left,show 7=FL.length from rfl,List.drop_left,BI post hb]
theorem tK {l:List Nat} (h:∀k,k<=l.length->eK (l.drop k)=false):gY l.toArray none:=fun r hr=>by
 rw [iA]
 rcases Nat.lt_or_ge l.length r with q|q
 ·rw [List.drop_of_length_le (by lia)]
  decide
 ·rw [h r q]
  decide
noncomputable def bytesOf (l:List Nat):Array UInt8:=(l.map fun c=>c.toUInt8).toArray
theorem KM (l:List Nat):zK (S l)=bytesOf l:=by
 unfold zK bytesOf
 simp
theorem oR (a b:List Nat):bytesOf a++bytesOf b=bytesOf (a++b):=by
 unfold bytesOf
 simp
theorem nN {l:List Nat} (h:∀c∈l,c<128):oU (bytesOf l)=l.toArray:=by
 unfold oU bytesOf
 rw [List.map_toArray,List.map_map]
 congr 1
 conv=>rhs; rw [←List.map_id l]
 refine List.map_congr_left fun c hc=>?_
 show (c.toUInt8).toNat=c
 have:=h c hc
 simp
 lia
theorem rV (l:List Nat):(bytesOf l).size=l.length:=by
 unfold bytesOf
 simp
theorem BB {f p d:Addr} (D:DefAt W f (aT 4) ["resp"]) (G:Glb W) (hm:W.mg "Flags" = some (.ref p)) (Pt:PatAt W p o5 1 1 (.ref d)) (N:NamesAt W d) {pre body post:List Nat} {ws:List (Array UInt8)}
  (hb:41∉body) (hc:∀c∈pre++(FL++(body++41::post)),c<128/\c≠10) (hz:(pre++(FL++(body++41::post))).length<=1000) (hlater:∀k,1<=k->k<=(FL++(body++41::post)).length->eK ((FL++(body++41::post)).drop k)=false) (hw:jH (bytesOf body)=ws) :
  Fn W (n+2) f [.bytes (bytesOf (pre++(FL++(body++41::post))))] (.tuple (ws.map .bytes)):=by
 obtain ⟨h1,h2⟩:=FO hb (fun c h=>(hc c h).2) hlater
 have hN:=nN fun c h=>(hc c h).1
 have:=uM (n:=n) D G hm Pt N (b:=bytesOf (pre++(FL++(body++41::post)))) (fr:=some pre.length) (by rw [rV]; exact hz) (by rw [hN]; exact h1)
 have e:sM (bytesOf (pre++(FL++(body++41::post)))) (pre.length+7) (pre.length+7+rH (oU (bytesOf (pre++(FL++(body++41::post))))) pre.length)=bytesOf body:=by
  rw [hN,h2]
  unfold sM
  rw [show (bytesOf (pre++(FL++(body++41::post)))).map (·.toNat)=oU (bytesOf (pre++(FL++(body++41::post)))) from rfl,hN,List.extract_toArray,List.extract_eq_take_drop,Nat.add_sub_cancel_left]
  rw [←List.drop_drop,List.drop_left,show 7=FL.length from rfl,List.drop_left,List.take_left]
  unfold bytesOf
  simp
 unfold yC at this
 dsimp only at this
 rw [e,hw] at this
 exact this
theorem uT {f p d:Addr} (D:DefAt W f (aT 4) ["resp"]) (G:Glb W) (hm:W.mg "Flags" = some (.ref p)) (Pt:PatAt W p o5 1 1 (.ref d)) (N:NamesAt W d) {l:List Nat} (hc:∀c∈l,c<128) (hz:l.length<=1000) (h:gY l.toArray none) :
  Fn W (n+2) f [.bytes (bytesOf l)] (.tuple []):=by
 have:=uM (n:=n) D G hm Pt N (b:=bytesOf l) (fr:=none) (by rw [rV]; exact hz) (by rw [nN hc]; exact h)
 exact this
end
section
variable {W:Wd} {n:Nat}
noncomputable def KU:List Nat->List Nat
 | []=>[]
 | x::r=>[97+x]++r.flatMap fun y=>[32,9]++[97+y]
noncomputable def bodyL (co:List Nat):List Nat:=[92,40,90,93,32]++(KU co++[32,92,40,90,93])
noncomputable def gU (co:List Nat):List Nat:=110::(FL++(bodyL co++[41]))
theorem BC {co:List Nat} (h:∀x∈co,x<5):Txt.join " \t" (co.map letter)=S (KU co):=by
 cases co with
 | nil=>rfl
 | cons x r =>
  have e:(x::r).map letter=([97+x]::r.map fun y=>[97+y]).map S:=by
   rw [List.map_cons,List.map_cons,List.map_map,jC (h x List.mem_cons_self)]
   congr 1
   exact List.map_congr_left fun y hy=>jC (h y (List.mem_cons_of_mem _ hy))
  rw [e,show (" \t":Str)=S [32,9] from rfl,yB,List.flatMap_map]
  rfl
theorem pB {co:List Nat} (h:∀x∈co,x<5):bE co=S (gU co):=by
 unfold bE
 rw [BC h,show ("nFLAGS (\\(Z] ":Str)=S [110,70,76,65,71,83,32,40,92,40,90,93,32] from rfl,show (" \\(Z])":Str)=S [32,92,40,90,93,41] from rfl,fK,fK]
 congr 1
 unfold gU bodyL FL
 simp
noncomputable def nZ:List (List Nat):=(List.range 32).map iJ
theorem qI (p:Nat->Bool) (a:Nat) (l:List Nat):(a::l).filter p=(if p a=true then [a] else [])++l.filter p:=by
 rw [List.filter_cons]
 cases p a<;>rfl
theorem w8 (p:Nat->Bool):r5.filter p∈nZ:=by
 have:∀a b c d e:Bool,((if a=true then [0] else [])++((if b=true then [1] else [])++((if c=true then [2] else [])++((if d=true then [3] else [])++if e=true then [4] else []))):List Nat)∈nZ:=by decide +kernel
 have e:r5.filter p=(if p 0=true then [0] else [])++((if p 1=true then [1] else [])++((if p 2=true then [2] else [])++((if p 3=true then [3] else [])++if p 4=true then [4] else []))):=by
  unfold r5
  rw [qI,qI,qI,qI,qI,show List.filter p []=[] from rfl,List.append_nil]
 rw [e]
 exact this _ _ _ _ _
noncomputable def v9:List Nat:=[32,70,76,65,71,83,40,122,41,32,102,108,97,103,115,32,40,122,41,32,70,76,65,71,83,32,40,122]
theorem yJ:AK=bytesOf v9:=by rfl
noncomputable def uO (rest:List Nat):Bool:=(List.range rest.length).all fun k => !eK (rest.drop (k+1))
noncomputable def KT (co:List Nat):Bool:=
 !(elemB 41 (bodyL co))&&((bodyL co).all (fun c=>decide (c<128)&&c != 10)&&(uO (FL++(bodyL co++41::v9))&&(uO (FL++(bodyL co++41::[]))&&(jH (bytesOf (bodyL co))==flagB::(co.map lP++[flagB])&&(decide ((bodyL co).length<=30)&&co.all fun x=>decide (x<5))))))
theorem CU:nZ.all KT=true:=by decide +kernel
structure CoOk (co:List Nat):Prop where
 no:41∉bodyL co
 ok:∀c∈bodyL co,c<128/\c≠10
 l1:∀k,1<=k->k<=(FL++(bodyL co++41::v9)).length->eK ((FL++(bodyL co++41::v9)).drop k)=false
 l2:∀k,1<=k->k<=(FL++(bodyL co++41::[])).length->eK ((FL++(bodyL co++41::[])).drop k)=false
 words:jH (bytesOf (bodyL co))=flagB::(co.map lP++[flagB])
 len:(bodyL co).length<=30
 lt:∀x∈co,x<5
theorem r3 {rest:List Nat} (h:uO rest=true):∀k,1<=k->k<=rest.length->eK (rest.drop k)=false:=fun k h1 h2=>by
 obtain ⟨j,rfl⟩:∃j,k=j+1:=⟨k-1,by lia⟩
 have:=List.all_eq_true.mp h j (List.mem_range.mpr (by lia))
 rwa [Bool.not_eq_true'] at this
theorem nC {co:List Nat} (h:co∈nZ):CoOk co:=by
 revert co;refine no_implicit_lambda%(hK ?_);generalize HK _=co;intro h
 have q:=List.all_eq_true.mp CU co h
 unfold KT at q
 simp only [Bool.and_eq_true] at q
 obtain ⟨q1,hq⟩:=q; have q2:=hq.1; have q3:=hq.2.1; have q4:=hq.2.2.1; have q5:=hq.2.2.2.1; have q6:=hq.2.2.2.2.1; have q7:=hq.2.2.2.2.2
 refine ⟨fun z=>?_,fun c hc=>?_,r3 q3,r3 q4,eq_of_beq q5,of_decide_eq_true q6,fun x hx=>?_⟩
 ·rw [i3.mpr z] at q1
  exact jD q1
 ·have:=List.all_eq_true.mp q2 c hc
  rw [Bool.and_eq_true] at this
  exact ⟨of_decide_eq_true this.1,by simpa using this.2⟩
 ·exact of_decide_eq_true (List.all_eq_true.mp q7 x hx)
theorem xD (co:List Nat):(flagB::(co.map lP++[flagB])).map Dat.bytes=namesL co:=by
 unfold namesL
 rw [List.map_cons,List.map_append,List.map_map]
 rfl
noncomputable def wl (cos:List (List Nat)):List Nat:=cos.flatMap fun c=>32::gU c
theorem K5 (a b:List (List Nat)):wl (a++b)=wl a++wl b:=List.flatMap_append ..
theorem BD (ls:List (List Nat)):Txt.join "" (ls.map S)=S ls.flatten:=by
 cases ls with
 | nil=>rfl
 | cons x r =>
  rw [show ("":Str)=S [] from rfl,yB]
  congr 1
  rw [List.flatten_cons]
  congr 1
  rw [←List.flatMap_id]
  rfl
section
variable {cos:List (List Nat)} (hc:∀co∈cos,co∈nZ)
include hc in
theorem FX:fZ (cos.map bE)=(cos.map fun c=>32::gU c).map S:=by
 unfold fZ
 rw [List.map_map,List.map_map]
 refine List.map_congr_left fun c h=>?_
 show (" ":Str)++bE c=S (32::gU c)
 rw [pB (nC (hc c h)).lt,show (" ":Str)=S [32] from rfl,fK]
 rfl
include hc in
theorem nD:bA (cos.map bE)=S (wl cos):=by
 unfold bA
 rw [FX hc,BD]
 congr 1
theorem sZ (co:List Nat):(gU co).length=(bodyL co).length+9:=by
 unfold gU
 rw [List.length_cons,List.length_append,List.length_append]
 show 7+(_+1)+1=_
 lia
include hc in
theorem zE:(wl cos).length<=40*cos.length:=by
 induction cos with
 | nil=>exact Nat.le_refl _
 | cons c l ih =>
  have h1:=ih fun co h=>hc co (List.mem_cons_of_mem _ h)
  have h2:=(nC (hc c List.mem_cons_self)).len
  have e:wl (c::l)=(32::gU c)++wl l:=rfl
  rw [e,List.length_append,List.length_cons,sZ,List.length_cons]
  lia
include hc in
theorem HY:∀c∈wl cos,c<128/\c≠10:=fun c h=>by
 obtain ⟨co,h1,h2⟩:=List.mem_flatMap.mp h
 have q:=(nC (hc co h1)).ok
 rcases List.mem_cons.mp h2 with rfl|h2
 ·decide
 ·rcases List.mem_cons.mp h2 with rfl|h2
  ·decide
  ·rcases List.mem_append.mp h2 with h2|h2
   ·have:∀c∈FL,c<128/\c≠10:=by decide
    exact this c h2
   ·rcases List.mem_append.mp h2 with h2|h2
    ·exact q c h2
    ·rw [List.mem_singleton.mp h2]; decide
theorem sR {co:List Nat} (h:co∈nZ):(bE co).length<=39:=by
 have q:=nC h
 rw [pB q.lt,bQ,sZ]
 have:=q.len
 lia
end
theorem g7 {cos:List (List Nat)} (hc:∀co∈cos,co∈nZ) (j:Nat):∀co∈cos.take j,co∈nZ:=fun co h=>hc co (List.mem_of_mem_take h)
theorem JF {f p d:Addr} (D:DefAt W f (aT 4) ["resp"]) (G:Glb W) (hm:W.mg "Flags" = some (.ref p)) (Pt:PatAt W p o5 1 1 (.ref d)) (N:NamesAt W d) {cos:List (List Nat)} (hc:∀co∈cos,co∈nZ) (h5:cos.length<=5) :
  ReadOk W (n+2) f (cos.map bE) fun i=>namesL (cos.getD i []):=by
 revert W n f p d cos;refine no_implicit_lambda%(hK5 ?_);generalize (HK5 _).1=W,(HK5 _).2.1=n,(HK5 _).2.2.1=f,(HK5 _).2.2.2.1=p,(HK5 _).2.2.2.2=d;intro D G hm Pt N;refine no_implicit_lambda%(hK ?_);generalize HK _=cos;intro hc h5
 have tk:∀j,(cos.map bE).take j=(cos.take j).map bE:=fun j=>(List.map_take ..).symm
 have tlen:∀j,(cos.take j).length<=5:=fun j=>by rw [List.length_take]; lia
 refine ⟨fun q hq=>?_,by rw [List.length_map]; lia,fun j=>?_,fun j=>?_,fun j=>?_,fun j=>?_,fun j hj=>?_,?_,?_,?_,?_⟩
 ·obtain ⟨co,h1,rfl⟩:=List.mem_map.mp hq
  have:=sR (hc co h1)
  lia
 ·refine uZ _ fun q hq=>?_
  rw [tk] at hq
  obtain ⟨co,h1,rfl⟩:=List.mem_map.mp hq
  rw [pB (nC (g7 hc j co h1)).lt,show (" ":Str)=S [32] from rfl,fK]
  have:=BD [[32],gU co]
  rw [List.map_cons,List.map_cons,List.map_nil] at this
  rw [this]
  simp
 ·refine pM (B:=100) (fun y hy=>?_) ?_
  ·obtain ⟨q,hq,rfl⟩:=List.mem_map.mp hy
   rw [tk] at hq
   obtain ⟨co,h1,rfl⟩:=List.mem_map.mp hq
   have:=sR (g7 hc j co h1)
   rw [PySem.Str.length_append]
   show 1+_<=_
   lia
  ·rw [List.length_map,tk,List.length_map]
   have:=tlen j
   show _*100+_*0<=_
   lia
 ·rw [tk,nD (g7 hc j),bQ]
  have:=zE (g7 hc j)
  have:=tlen j
  lia
 ·rw [tk,nD (g7 hc j)]
  rw [←Array.all_toList,List.all_eq_true]
  intro c h
  have:=HY (g7 hc j) c (by simpa using h)
  simpa using this.1
 ·rw [List.length_map] at hj
  have hgd:cos.getD j []=cos[j]:=by rw [List.getD_eq_getElem?_getD,List.getElem?_eq_getElem hj]; rfl
  revert j;refine no_implicit_lambda%(hK ?_);generalize HK _=j;intro hj hgd
  have q:=nC (hc _ (List.getElem_mem hj))
  have hpre:∀c∈wl (cos.take j)++[32,110],c<128/\c≠10:=fun c h=>by
   rcases List.mem_append.mp h with h|h
   ·exact HY (g7 hc j) c h
   ·have:∀c∈([32,110]:List Nat),c<128/\c≠10:=by decide
    exact this c h
  have hFL:∀c∈FL,c<128/\c≠10:=by decide
  have hlen:=zE (g7 hc j)
  have h6:=tlen j
  have key:∀post:List Nat,(∀c∈post,c<128/\c≠10)->post.length<=100->(∀k,1<=k->k<=(FL++(bodyL cos[j]++41::post)).length->eK ((FL++(bodyL cos[j]++41::post)).drop k)=false) ->
    Fn W (n+2) f [.bytes (zK (bA ((cos.map bE).take (j+1)))++bytesOf post)] (.tuple (namesL cos[j])):=fun post hp hpl hl=>by
   rw [tk,nD (g7 hc (j+1)),KM,oR,List.take_succ_eq_append_getElem hj,K5]
   have e:wl (cos.take j)++wl [cos[j]]++post=(wl (cos.take j)++[32,110])++(FL++(bodyL cos[j]++41::post)):=by
    have:wl [cos[j]]=32::110::(FL++(bodyL cos[j]++[41])):=by
     unfold wl gU
     simp
    rw [this]
    simp
   rw [e,←xD]
   refine BB D G hm Pt N q.no (fun c h=>?_) ?_ hl q.words
   ·rcases List.mem_append.mp h with h|h
    ·exact hpre c h
    ·rcases List.mem_append.mp h with h|h
     ·exact hFL c h
     ·rcases List.mem_append.mp h with h|h
      ·exact q.ok c h
      ·rcases List.mem_cons.mp h with rfl|h
       ·decide
       ·exact hp c h
   ·have hb:=q.len
    simp only [List.length_append,List.length_cons,List.length_nil]
    have:FL.length=7:=rfl
    lia
  show Fn W (n+2) f _ (.tuple (namesL (cos.getD j [])))
  rw [hgd]
  unfold gR
  by_cases hl:j+1=(cos.map bE).length
  ·rw [if_pos hl,yJ]
   exact key v9 (by decide) (by decide) q.l1
  ·rw [if_neg hl]
   exact key [] (by decide) (by decide) q.l2
 ·exact uT (l:=[]) D G hm Pt N (by decide) (by decide) (tK (by decide))
 ·exact uT (l:=[32,70,76,65,71,83,32,40,122]) D G hm Pt N (by decide) (by decide) (tK (by decide))
 ·refine uT (l:=[10,32,70,76,65,71,83,32,40,122,41]) D G hm Pt N (by decide) (by decide) fun r hr=>?_
  have:jR ([10,32,70,76,65,71,83,32,40,122,41]:List Nat).toArray=0:=rfl
  rw [this] at hr
  have:r=0:=by lia
  subst this
  rw [iA]
  decide
 ·have hN:oU (bytesOf [70,76,65,71,83,32,40,121,10,32,122,41])=([70,76,65,71,83,32,40,121,10,32,122,41]:List Nat).toArray:=nN (by decide)
  have hr:gY ([70,76,65,71,83,32,40,121,10,32,122,41]:List Nat).toArray (some 0):=by
   have hl:jR ([70,76,65,71,83,32,40,121,10,32,122,41]:List Nat).toArray=8:=rfl
   refine ⟨Nat.zero_le _,by rw [iA]; decide,fun r h1 h2=>?_⟩
   rw [hl] at h2
   rw [iA]
   have:∀r,r<9->0<r->eK (([70,76,65,71,83,32,40,121,10,32,122,41]:List Nat).drop r)=false:=by decide
   rw [this r (by lia) h1]
   decide
  have:=uM (n:=n) D G hm Pt N (b:=bytesOf [70,76,65,71,83,32,40,121,10,32,122,41]) (fr:=some 0) (by decide) (by rw [hN]; exact hr)
  have e:yC (bytesOf [70,76,65,71,83,32,40,121,10,32,122,41]) (some 0)=[.bytes #[121],.bytes #[122]]:=by
   show (jH _).map Dat.bytes=[(#[121]:Array UInt8),#[122]].map Dat.bytes
   congr 1
   rw [hN]
   decide +kernel
  rw [e] at this
  exact this
theorem B3 {f p d:Addr} (D:DefAt W f (aT 4) ["resp"]) (G:Glb W) (hm:W.mg "Flags" = some (.ref p)) (Pt:PatAt W p o5 1 1 (.ref d)) (N:NamesAt W d) {cos:List (List Nat)} (hc:∀co∈cos,co∈nZ) (h5:cos.length<=5) :
  Fn W (n+2) f [.bytes (zK (bA (cos.map bE)) ++ #[32,70,76,65,71,83,32,40,41])] (.tuple []):=by
 have e0:(#[32,70,76,65,71,83,32,40,41]:Array UInt8)=bytesOf [32,70,76,65,71,83,32,40,41]:=by rfl
 rw [nD hc,KM,e0,oR]
 have e:wl cos++[32,70,76,65,71,83,32,40,41]=(wl cos++[32])++(FL++([]++41::[])):=by simp [FL]
 rw [e]
 have hlen:=zE hc
 exact BB (ws:=[]) D G hm Pt N (by decide) (fun c h=>by
  rcases List.mem_append.mp h with h|h
  ·rcases List.mem_append.mp h with h|h
   ·exact HY hc c h
   ·rw [List.mem_singleton.mp h]; decide
  ·have:∀c∈FL++([]++41::[]),c<128/\c≠10:=by decide
   exact this c h) (by simp only [List.length_append,List.length_cons,List.length_nil]; have:FL.length=7:=rfl; lia) (r3 (rfl)) (by decide +kernel)
theorem DI {cos:List (List Nat)} (hc:∀co∈cos,co∈nZ):5+lens ((cos.map bE).map fun p=>((" ":Str),p))=5+((bA (cos.map bE)).length:Int):=by
 rw [nD hc,bQ]
 congr 1
 unfold lens
 rw [List.map_map,List.map_map]
 induction cos with
 | nil=>rfl
 | cons c l ih =>
  have h1:=ih fun co h=>hc co (List.mem_cons_of_mem _ h)
  have e:wl (c::l)=(32::gU c)++wl l:=rfl
  rw [List.map_cons,List.sum_cons,h1,e,List.length_append]
  show (((" ":Str).length+(bE c).length:Nat):Int)+_=_
  rw [pB (nC (hc c List.mem_cons_self)).lt,bQ (gU c),List.length_cons]
  have:(" ":Str).length=1:=rfl
  lia
end
section
variable {W:Wd} {n:Nat}
noncomputable def uJ (A B:Nat->Nat):List (List Nat):=[hl A B 0,hl A B 1,hl A B 2,hl A B 3,hl A B 4]
noncomputable def ladP (A B:Nat->Nat):List (List Nat):=sK (dC uY (uJ A B)) []
noncomputable def M2 (A B:Nat->Nat) (lb:List Nat):List Nat:=r5.filter fun y => !(elemB y lb)&&o3 (A (sL lb (uJ A B))) (A y)
noncomputable def lsP (A B:Nat->Nat):List (List Nat):=(ladP A B).map (M2 A B)
noncomputable def fF (A:Nat->Nat) (y:Nat):Nat:=xK (A y) (A4 A)
structure Plain (A B:Nat->Nat):Prop where
 told:∀x y,x<5->y<5->told A B x y=o3 (A x) (A y)
 eqA:∀x y,x<5->y<5->pA (A x)=pA (A y)->A x=A y
 inc:BP (dC (fun p=>p.1) (r31.filterMap (iE A (l8 A) (m7 (orF A B)))))=true
 leq:CZ (dC (fun p=>p.1) (r31.filterMap (iE A (l8 A) (m7 (orF A B))))) (lsP A B)=true
 len:(lsP A B).length=(A4 B).length
 st:∀y,y<5->fF A y+fF B y<(lsP A B).length/\l7 y (lsP A B) 0=rZ (fF A y) ((lsP A B).length-fF B y-fF A y)
 wi:(nU fun x=>nU fun y=>Nat.blt (fF A x) (fF A y)&&Nat.blt (fF B x) (fF B y))=MZ A B (orF A B)
theorem CO (g:Nat->Nat) {y:Nat} (hy:y<5):lH (g 0) (g 1) (g 2) (g 3) (g 4) y=g y:=by
 rcases (by lia:y=0\/y=1\/y=2\/y=3\/y=4) with rfl|rfl|rfl|rfl|rfl<;>rfl
theorem KQ (g:Nat->List Nat) {y:Nat} (hy:y<5):MD (g 0) (g 1) (g 2) (g 3) (g 4) y=g y:=by
 rcases (by lia:y=0\/y=1\/y=2\/y=3\/y=4) with rfl|rfl|rfl|rfl|rfl<;>rfl
theorem HP (A B:Nat->Nat) (y:Nat):dC (lH (o6 B 0) (o6 B 1) (o6 B 2) (o6 B 3) (o6 B 4)) (iJ (A y))=hl A B y:=by
 rw [gA]
 unfold hl
 refine iO fun x hx z hz=>?_
 rw [CO (o6 B) (d6.mp hx).1,CO (o6 B) (d6.mp hz).1]
 exact Iff.rfl
theorem I2 (A B:Nat->Nat):K9 A B=HV A B (lH (orF A B 0) (orF A B 1) (orF A B 2) (orF A B 3) (orF A B 4)) (hl A B 0) (hl A B 1) (hl A B 2) (hl A B 3) (hl A B 4):=by
 revert A B;refine no_implicit_lambda%(hK2 ?_);generalize (HK2 _).1=A,(HK2 _).2=B
 unfold K9
 simp only [gB,kW]
 rw [HP,HP,HP,HP,HP]
 rfl
theorem wI {A B:Nat->Nat} (h:chk A B=true) (hc:kI A=false):Plain A B:=by
 revert A B;refine no_implicit_lambda%(hK2 ?_);generalize (HK2 _).1=A,(HK2 _).2=B;intro h hc
 unfold chk at h
 rw [hc] at h
 dsimp only at h
 rw [Bool.and_eq_true,I2] at h
 obtain ⟨h1,h2⟩:=h
 unfold HV at h2
 rw [Bool.and_eq_true] at h2
 obtain ⟨h2,h3⟩:=h2
 simp only [gB,kW,qP] at h3
 rw [Bool.and_eq_true,Bool.and_eq_true] at h3
 obtain ⟨⟨h3,h4⟩,h5⟩:=h3
 unfold KR at h5
 simp only [gB] at h5
 rw [Bool.and_eq_true,Bool.and_eq_true] at h5
 obtain ⟨h5,h6,h7⟩:=h5
 refine ⟨fun x y hx hy=>?_,fun x y hx hy e=>?_,h3,h4,?_,fun y hy=>?_,?_⟩
 ·have:=z6.mp (jF.mp (jF.mp h2 x hx) y hy)
  rw [KQ (hl A B) hx,KQ (hl A B) hy] at this
  exact this
 ·have:=jF.mp (jF.mp h1 x hx) y hy
  rw [dT.mpr e] at this
  exact dT.mp this
 ·have:=dT.mp h5
  rw [l3] at this
  exact this
 ·have:=jF.mp h6 y hy
  rw [Bool.and_eq_true,gF,jM] at this
  change lH (fF A 0) (fF A 1) (fF A 2) (fF A 3) (fF A 4) y+lH (fF B 0) (fF B 1) (fF B 2) (fF B 3) (fF B 4) y<(lsP A B).length/\l7 y (lsP A B) 0=rZ (lH (fF A 0) (fF A 1) (fF A 2) (fF A 3) (fF A 4) y) ((lsP A B).length-lH (fF B 0) (fF B 1) (fF B 2) (fF B 3) (fF B 4) y-lH (fF A 0) (fF A 1) (fF A 2) (fF A 3) (fF A 4) y) at this
  rw [CO (fF A) hy,CO (fF B) hy] at this
  exact this
 ·exact z6.mp h7
noncomputable abbrev toHost (l:List Nat):List Str:=l.map letter++[("local":Str)]
noncomputable def sG (l:List Nat):Prop:=∀x∈l,x<5
theorem K7 (h a:List Nat) (l:List (List Nat)):sE h (a::l)=match leq a h with|true=>true|false=>sE h l:=rfl
theorem yX (h:List Nat) (l acc:List (List Nat)):sK (h::l) acc=match sE h acc with|true=>sK l acc|false=>sK l (acc++[h]):=rfl
theorem xF {h:List Nat} {l:List (List Nat)}:sE h l=true↔h∈l:=by
 induction l with
 | nil=>exact ⟨jD,fun q=>nomatch q⟩
 | cons a l ih =>
  rw [K7]
  cases e:leq a h with
  | true=>exact ⟨fun _=>vH e▸List.mem_cons_self,fun _=>rfl⟩
  | false=>exact ⟨fun q=>List.mem_cons_of_mem _ (ih.mp q),fun q=>(List.mem_cons.mp q).elim (fun z=>jD (e.symm.trans (jM.mpr z.symm))) ih.mpr⟩
theorem G4 (l:List (List Nat)):∀(acc:List (List Nat)) (z:List Nat),z∈sK l acc↔z∈acc\/z∈l:=by
 induction l with
 | nil=>exact fun acc z=>⟨.inl,fun q=>q.elim id fun m=>nomatch m⟩
 | cons h l ih =>
  intro acc z
  rw [yX]
  cases e:sE h acc with
  | true=>exact (ih acc z).trans ⟨fun q=>q.imp id (List.mem_cons_of_mem _),fun q=>q.elim .inl fun m=>(List.mem_cons.mp m).elim (fun e2=>.inl (e2▸xF.mp e)) .inr⟩
  | false=>exact (ih (acc++[h]) z).trans ((or_congr_left (List.mem_append.trans (or_congr_right List.mem_singleton))).trans (or_assoc.trans (or_congr_right List.mem_cons.symm)))
theorem D5 (l:List (List Nat)):∀(acc:List (List Nat)),(sK l acc).length<=acc.length+l.length:=by
 induction l with
 | nil=>exact fun _=>Nat.le_refl _
 | cons h l ih =>
  intro acc
  rw [yX]
  cases sE h acc with
  | true=>exact Nat.le_trans (ih acc) (Nat.le_succ _)
  | false =>
   have:=ih (acc++[h])
   rw [List.length_append,Nat.add_assoc,Nat.add_comm [h].length] at this
   exact this
theorem FP {h:List Nat} {acc:List (List Nat)} (hh:sG h) (h2:∀z∈acc,sG z):(acc.map toHost).any (fun a=>eJ (aO a) (aO (toHost h)))=sE h acc:=by
 rw [List.any_map,Bool.eq_iff_iff,List.any_eq_true,xF]
 exact ⟨fun q=>q.elim fun z y=>(m9 (h2 z y.1) hh).mp ((mH _ _).mp y.2)▸y.1,fun hm=>⟨h,hm,cM _⟩⟩
theorem H3 (l:List (List Nat)):∀(acc:List (List Nat)),(∀z∈l,sG z)->(∀z∈acc,sG z)->(l.map toHost).foldl dQ (acc.map toHost)=(sK l acc).map toHost:=by
 induction l with
 | nil=>exact fun _ _ _=>rfl
 | cons h l ih =>
  intro acc h1 h2
  have hh:=h1 h List.mem_cons_self
  have h1':∀z∈l,sG z:=fun z hz=>h1 z (List.mem_cons_of_mem _ hz)
  show (l.map toHost).foldl dQ (if (acc.map toHost).any (fun a=>eJ (aO a) (aO (toHost h)))=true then acc.map toHost else acc.map toHost++[toHost h])=_
  rw [FP hh h2,yX]
  cases e2:sE h acc with
  | true=>exact ih acc h1' h2
  | false =>
   have:=ih (acc++[h]) h1' fun z hz=>(List.mem_append.mp hz).elim (h2 z) fun m=>List.mem_singleton.mp m▸hh
   rw [List.map_append] at this
   exact this
theorem vV (A B:Nat->Nat):hostsOf (hostOf A B)=(uJ A B).map toHost:=rfl
theorem A8 {A B:Nat->Nat} {z:List Nat}:z∈uJ A B↔∃y,y<5/\z=hl A B y:=by
 revert A B z;refine no_implicit_lambda%(hK3 ?_);generalize (HK3 _).1=A,(HK3 _).2.1=B,(HK3 _).2.2=z
 unfold uJ
 simp only [List.mem_cons,List.not_mem_nil,or_false]
 constructor
 ·rintro (h|h|h|h|h)
  ·exact ⟨0,by decide,h⟩
  ·exact ⟨1,by decide,h⟩
  ·exact ⟨2,by decide,h⟩
  ·exact ⟨3,by decide,h⟩
  ·exact ⟨4,by decide,h⟩
 ·rintro ⟨y,hy,h⟩
  rcases (by lia:y=0\/y=1\/y=2\/y=3\/y=4) with rfl|rfl|rfl|rfl|rfl
  ·exact .inl h
  ·exact .inr (.inl h)
  ·exact .inr (.inr (.inl h))
  ·exact .inr (.inr (.inr (.inl h)))
  ·exact .inr (.inr (.inr (.inr h)))
theorem iD {A B:Nat->Nat} {z:List Nat} (h:z∈uJ A B):sG z:=by
 obtain ⟨y,_,rfl⟩:=A8.mp h
 exact fun x hx=>mR hx
theorem r9 {A B:Nat->Nat} {z:List Nat}:z∈ladP A B↔z∈uJ A B:=by
 unfold ladP
 rw [G4,gA,eW]
 simp
theorem jK (l:List Nat):(toHost l).length=l.length+1:=by
 rw [List.length_append,List.length_map]
 rfl
theorem KD (A B:Nat->Nat):(dI (fun p:Nat×List Str=>p.1) ((hostsOf (hostOf A B)).map fun h=>(h.length,h))).map (fun p=>p.2)=(dC uY (uJ A B)).map toHost:=by
 rw [←i7 (fun h:List Str=>(h.length,h)) (fun p:Nat×List Str=>p.1),List.map_map]
 show List.map (fun h=>h) (dI (fun a=>List.length a) (hostsOf (hostOf A B)))=_
 rw [List.map_id'' (fun _=>rfl),vV,←i7 toHost (fun h:List Str=>h.length),gA]
 congr 1
 refine iO fun x _ y _=>?_
 rw [jK,jK,l3,l3]
 lia
end
section
variable {W:Wd} {n:Nat}
theorem EG (lb h:List Nat) (l:List (List Nat)):sL lb (h::l)=match leq h lb with|true=>0|false=>Nat.succ (sL lb l):=rfl
theorem BF {m:List Nat} {l:List (List Nat)}:m∈l->l[sL m l]? = some m/\∀(i:Nat) (z:List Nat),i<sL m l->l[i]? = some z->z≠m:=by
 induction l with
 | nil=>exact fun h=>nomatch h
 | cons a l ih =>
  intro h
  rw [EG]
  cases e:leq a m with
  | true=>exact ⟨congrArg some (vH e),fun i z hi _=>absurd hi (Nat.not_lt_zero _)⟩
  | false =>
   have hne:a≠m:=fun q=>jD (e.symm.trans (jM.mpr q))
   have hq:=ih ((List.mem_cons.mp h).resolve_left fun q=>hne q.symm)
   refine ⟨hq.1,fun i z hi hz=>?_⟩
   cases i with
   | zero=>exact Option.some.inj hz▸hne
   | succ i=>exact hq.2 i z (Nat.lt_of_succ_lt_succ hi) hz
theorem A9 {m:List Nat} (hm:sG m) {l:List (List Nat)}:(∀z∈l,sG z)->idxH (l.map toHost) (toHost m)=sL m l:=by
 delta idxH
 induction l with
 | nil=>exact fun _=>rfl
 | cons a l ih =>
  intro h
  have e:eJ (aO (toHost a)) (aO (toHost m))=leq a m:=by
   rw [Bool.eq_iff_iff,mH,m9 (h a List.mem_cons_self) hm,jM]
  rw [List.map_cons,List.findIdx_cons,EG,ih fun z hz=>h z (List.mem_cons_of_mem _ hz),e]
  cases leq a m<;>rfl
theorem kV (A B:Nat->Nat):(hostsOf (hostOf A B))=(uJ A B).map toHost:=vV A B
theorem JB {A B:Nat->Nat} {i:Nat} {z:List Nat} (h:(uJ A B)[i]? = some z):i<5/\z=hl A B i:=by
 unfold uJ at h
 match i,h with
 | 0,h=>exact ⟨by decide,(Option.some.inj h).symm⟩
 | 1,h=>exact ⟨by decide,(Option.some.inj h).symm⟩
 | 2,h=>exact ⟨by decide,(Option.some.inj h).symm⟩
 | 3,h=>exact ⟨by decide,(Option.some.inj h).symm⟩
 | 4,h=>exact ⟨by decide,(Option.some.inj h).symm⟩
 | (k+5),h=>cases h
theorem LK {A B:Nat->Nat} {m:List Nat} (hm:m∈uJ A B):LadOk (hostsOf (hostOf A B)) (toHost m):=by
 obtain ⟨h1,h2⟩:=BF hm
 have hi:idxH (hostsOf (hostOf A B)) (toHost m)=sL m (uJ A B):=by
  rw [kV]; exact A9 (iD hm) fun z hz=>iD hz
 refine ⟨by rw [hi,kV,List.getElem?_map,h1]; rfl,fun i h hlt hh=>?_,fun h hh=>n4 _ _⟩
 rw [hi] at hlt
 rw [kV,List.getElem?_map] at hh
 obtain ⟨z,hz,rfl⟩:=Option.map_eq_some_iff.mp hh
 have hne:=h2 i z hlt hz
 have hzl:sG z:=iD (List.mem_of_getElem? hz)
 cases e:eJ (aO (toHost z)) (aO (toHost m)) with
 | false=>rfl
 | true=>exact absurd ((m9 hzl (iD hm)).mp ((mH _ _).mp e)) hne
theorem vD:∀y,y<5->(letter y==("local":Str))=false:=by decide +kernel
theorem sJ {m:List Nat} (hm:sG m) {y:Nat} (hy:y<5):((toHost m).map Dat.str).any (fun q=>eJ q (.str (letter y)))=elemB y m:=by
 rw [Bool.eq_iff_iff,List.any_eq_true,i3]
 constructor
 ·rintro ⟨q,hq,e⟩
  rw [(mE _ _).mp e] at hq
  obtain ⟨t,ht,e2⟩:=List.mem_map.mp hq
  injection e2 with e2
  subst e2
  rcases List.mem_append.mp ht with ht|ht
  ·obtain ⟨z,hz,e3⟩:=List.mem_map.mp ht
   rw [←qV z (hm z hz) y hy e3]; exact hz
  ·have:=vD y hy
   rw [List.mem_singleton.mp ht] at this
   simp at this
 ·intro h
  exact ⟨.str (letter y),List.mem_map.mpr ⟨letter y,List.mem_append_left _ (List.mem_map.mpr ⟨y,h,rfl⟩),rfl⟩,cM _⟩
theorem rU {i y:Nat} (hi:i<5) (hy:y<5):(i,y)∈aU:=List.mem_flatMap.mpr ⟨i,List.mem_range.mpr hi,List.mem_map.mpr ⟨y,List.mem_range.mpr hy,rfl⟩⟩
theorem wA {t:Nat->Nat->Bool} {i y:Nat} (hi:i<5) (hy:y<5):inLies (dD t) i y=t i y:=by
 revert t i y;refine no_implicit_lambda%(hK3 ?_);generalize (HK3 _).1=t,(HK3 _).2.1=i,(HK3 _).2.2=y;intro hi hy
 unfold inLies dD
 rw [Bool.eq_iff_iff,List.any_eq_true]
 constructor
 ·rintro ⟨q,hq,e⟩
  rw [(mE _ _).mp e] at hq
  obtain ⟨p,hp,e2⟩:=List.mem_map.mp hq
  have e2:Dat.tuple [.int p.1,.int p.2]=.tuple [.int i,.int y]:=e2
  injection e2 with e2
  injection e2 with e3 e2
  injection e2 with e4 _
  injection e3 with e3
  injection e4 with e4
  have h1:p.1=i:=by lia
  have h2:p.2=y:=by lia
  have:=(List.mem_filter.mp hp).2
  rw [←h1,←h2]; exact this
 ·intro h
  exact ⟨pairD (i,y),List.mem_map.mpr ⟨(i,y),List.mem_filter.mpr ⟨rU hi hy,h⟩,rfl⟩,cM _⟩
section
variable {A B:Nat->Nat}
theorem KN (Q:Plain A B) {m:List Nat} (hm:m∈uJ A B):iF (hostsOf (hostOf A B)) (dD (told A B)) (toHost m)=M2 A B m:=by
 obtain ⟨h1,_⟩:=BF hm
 obtain ⟨hi,_⟩:=JB h1
 have e:idxH (hostsOf (hostOf A B)) (toHost m)=sL m (uJ A B):=by
  rw [kV]; exact A9 (iD hm) fun z hz=>iD hz
 unfold iF M2
 rw [e,KV]
 refine List.filter_congr fun y hy=>?_
 have hy:=List.mem_range.mp hy
 rw [sJ (iD hm) hy,wA hi hy,Q.told _ _ hi hy]
theorem xE:(ladP A B).length<=5:=by
 have:=D5 (dC uY (uJ A B)) []
 rw [gA,g8] at this
 have h5:(uJ A B).length=5:=rfl
 rw [h5] at this
 unfold ladP
 rw [gA]
 simpa using this
theorem IQ:ladP A B≠[]:=fun h=>by
 have:hl A B 0∈ladP A B:=r9.mpr List.mem_cons_self
 rw [h] at this
 cases this
theorem l4:∀co∈lsP A B,co∈nZ:=fun co h=>by
 obtain ⟨m,_,rfl⟩:=List.mem_map.mp h
 exact w8 _
theorem uI:(lsP A B).length<=5:=by
 unfold lsP
 rw [List.length_map]
 exact xE
theorem yZ (Q:Plain A B):pcs (hostsOf (hostOf A B)) (dD (told A B)) ((ladP A B).map toHost)=(lsP A B).map bE:=by
 unfold lsP pcs
 rw [List.map_map,List.map_map]
 refine List.map_congr_left fun m hm=>?_
 show bE _=bE _
 rw [KN Q (r9.mp hm)]
theorem CW {p q:Nat×List Str} (h:p.1=q.1->p.2=q.2):DU (jP p) (jP q)=some (decide (p.1<q.1)):=by
 by_cases e:p.1=q.1
 ·rw [decide_eq_false (by rw [e]; exact Nat.lt_irrefl _)]
  show DU (.tuple [.int p.1,aO p.2]) (.tuple [.int q.1,aO q.2])=_
  rw [e,h e]
  exact qR (show kin 7 (aO q.2) (aO q.2)=true from nO 6 _ _)
 ·exact (uQ fun z=>e (Int.ofNat.inj z)).trans (congrArg some (decide_eq_decide.mpr Int.ofNat_lt))
theorem OY {x y:Nat} (h:A x=A y):hl A B x=hl A B y:=by
 unfold hl; rw [h]
noncomputable def LM (A B:Nat->Nat):List (Nat×List Str):=dI (fun p:Nat×List Str=>p.1) ((hostsOf (hostOf A B)).map fun h=>(h.length,h))
theorem GT {f p d fD:Addr} (D:DefAt W f (aT 4) ["resp"]) (G:Glb W) (hm:W.mg "Flags" = some (.ref p)) (Pt:PatAt W p o5 1 1 (.ref d)) (N:NamesAt W d) (DM:DmAt W fD)
  (Q:Plain A B) (hA:∀y,y<5->A y<32) :
  ∃(ini:List (List Str)) (h:List Str),(ini++[h]).length=(lsP A B).length/\ReadAll W n f fD (hostsOf (hostOf A B)) (dD (told A B)) (LM A B) ini h fun i=>namesL ((lsP A B).getD i []):=by
 revert W n A B f p d fD;refine no_implicit_lambda%(hK8 ?_);generalize (HK8 _).1=W,(HK8 _).2.1=n,(HK8 _).2.2.1=A,(HK8 _).2.2.2.1=B,(HK8 _).2.2.2.2.1=f,(HK8 _).2.2.2.2.2.1=p,(HK8 _).2.2.2.2.2.2.1=d,(HK8 _).2.2.2.2.2.2.2=fD;intro D G hm Pt N DM Q hA
 have hne:(ladP A B).map toHost≠[]:=fun e=>IQ (List.map_eq_nil_iff.mp e)
 have el:=List.dropLast_concat_getLast hne
 refine ⟨((ladP A B).map toHost).dropLast,((ladP A B).map toHost).getLast hne,?_,?_⟩
 ·rw [el]; unfold lsP; rw [List.length_map,List.length_map]
 have hh:∀h∈hostsOf (hostOf A B),∃y,y<5/\h=hostOf A B y:=fun h hh=>by
  obtain ⟨y,hy,rfl⟩:=List.mem_map.mp hh
  exact ⟨y,List.mem_range.mp hy,rfl⟩
 have hlen:∀y,y<5->(hostOf A B y).length<=6:=fun y hy=>by
  rw [eQ]; have:=g5 (B:=B) (hA y hy); lia
 have hh5:(hostsOf (hostOf A B)).length=5:=rfl
 have hmem:∀lb∈(ladP A B).map toHost,∃m,m∈uJ A B/\lb=toHost m:=fun lb h=>by
  obtain ⟨m,h1,rfl⟩:=List.mem_map.mp h
  exact ⟨m,r9.mp h1,rfl⟩
 have m5:∀m,m∈uJ A B->m.length<=5:=fun m h=>by
  obtain ⟨y,hy,rfl⟩:=A8.mp h
  exact g5 (hA y hy)
 refine ⟨fun h q=>?_,by rw [hh5]; decide,?_,?_,fun p _ q _=>n4 _ _,?_,?_,fun lb hlb=>?_,?_,?_,?_,?_,?_,?_⟩
 ·obtain ⟨y,hy,rfl⟩:=hh h q
  have:=hlen y hy
  lia
 ·have:=jV jP (fun p:Nat×List Str=>p.1) ((hostsOf (hostOf A B)).map fun h=>(h.length,h)) (by rw [List.length_map,hh5]; decide) fun p hp q hq=>CW fun e=>by
   obtain ⟨h1,k1,rfl⟩:=List.mem_map.mp hp
   obtain ⟨h2,k2,rfl⟩:=List.mem_map.mp hq
   obtain ⟨x,hx,rfl⟩:=hh h1 k1
   obtain ⟨y,hy,rfl⟩:=hh h2 k2
   have e:(hostOf A B x).length=(hostOf A B y).length:=e
   rw [eQ,eQ,zI,zI,←mC _ (hA x hx),←mC _ (hA y hy)] at e
   show hostOf A B x=hostOf A B y
   unfold hostOf
   rw [OY (Q.eqA x y hx hy (by lia))]
  rw [List.map_map] at this
  exact this
 ·unfold LM
  rw [g8,List.length_map,hh5]; decide
 ·rw [el]
  unfold LM
  show lad ((dI (fun p:Nat×List Str=>p.1) ((hostsOf (hostOf A B)).map fun h=>(h.length,h))).map (fun p=>p.2))=_
  rw [KD]
  exact H3 _ [] (fun z hz=>by
   rw [gA,eW] at hz
   exact iD hz) (fun z hz=>nomatch hz)
 ·rw [el,List.length_map]
  have:=xE (A:=A) (B:=B)
  lia
 ·rw [el] at hlb
  obtain ⟨m,h1,rfl⟩:=hmem lb hlb
  rw [KN Q h1]
  have k:=m5 m h1
  have hco:M2 A B m∈nZ:=w8 _
  have q:=nC hco
  refine ⟨LK h1,by rw [jK]; lia,?_,?_⟩
  ·refine pM (B:=1) (fun y hy=>?_) ?_
   ·obtain ⟨z,hz,rfl⟩:=List.mem_map.mp hy
    have:=q.lt z hz
    refine F8 (show z<5 by lia) ?_ ?_ ?_ ?_ ?_<;>decide +kernel
   ·rw [List.length_map]
    have:(M2 A B m).length<=5:=by unfold M2; exact List.length_filter_le _ _
    have e:(" \t":Str).length=2:=rfl
    rw [e]
    lia
  ·rw [BC q.lt,bQ]
   have:=q.len
   unfold bodyL at this
   rw [List.length_append,List.length_append] at this
   lia
 ·rw [el,yZ Q]
  exact JF D G hm Pt N l4 uI
 ·rw [el,yZ Q]
  exact DI l4
 ·rw [el,yZ Q]
  exact B3 D G hm Pt N l4 uI
 ·obtain ⟨m,h1,e⟩:=hmem _ (List.getLast_mem hne)
  rw [e]
  refine pM (B:=5) (fun y hy=>?_) ?_
  ·rcases List.mem_append.mp hy with hy|hy
   ·obtain ⟨z,hz,rfl⟩:=List.mem_map.mp hy
    have:=iD h1 z hz
    refine F8 (show z<5 by lia) ?_ ?_ ?_ ?_ ?_<;>decide +kernel
   ·rw [List.mem_singleton.mp hy]; decide
  ·rw [jK]
   have:=m5 m h1
   have e:(".":Str).length=1:=rfl
   rw [e]
   lia
 ·obtain ⟨m,h1,e⟩:=hmem _ (List.getLast_mem hne)
  rw [e,iZ (iD h1),bQ,List.length_drop,bS]
  have:=m5 m h1
  lia
 ·obtain ⟨m,h1,e⟩:=hmem _ (List.getLast_mem hne)
  rw [e]
  exact KG (n:=n+3) DM (iD h1) (m5 m h1)
end
end
section
variable {W:Wd} {n:Nat}
theorem FQ (P:Nat->Bool) (w limit:Nat) (l:List Nat):∀(c f:Nat),(sD P w limit l c f).length<=l.length:=by
 induction l with
 | nil=>exact fun _ _=>Nat.le_refl _
 | cons i l ih =>
  intro c f
  rw [zA]
  by_cases h:(decide (c<limit)&&(decide (f<=i)&&P i))=true
  ·rw [if_pos h]; exact Nat.succ_le_succ (ih _ _)
  ·rw [if_neg h]; exact Nat.le_succ_of_le (ih _ _)
theorem AJ (P:Nat->Bool) (w limit:Nat) (l:List Nat):∀(c f:Nat),c<limit->(sD P w limit l c f≠[]↔∃i∈l,f<=i/\P i=true):=by
 induction l with
 | nil=>exact fun _ _ _=>⟨fun h=>absurd rfl h,fun h=>h.elim fun i z=>nomatch z.1⟩
 | cons a l ih =>
  intro c f hc
  rw [zA]
  by_cases h:f<=a/\P a=true
  ·rw [if_pos (Bool.and_eq_true_iff.mpr ⟨decide_eq_true hc,Bool.and_eq_true_iff.mpr ⟨decide_eq_true h.1,h.2⟩⟩)]
   exact ⟨fun _=>⟨a,List.mem_cons_self,h⟩,fun _=>List.cons_ne_nil _ _⟩
  ·rw [if_neg fun q=>h ⟨of_decide_eq_true (Bool.and_eq_true_iff.mp (Bool.and_eq_true_iff.mp q).2).1,(Bool.and_eq_true_iff.mp (Bool.and_eq_true_iff.mp q).2).2⟩]
   exact (ih c f hc).trans ⟨fun z=>z.elim fun i z=>⟨i,List.mem_cons_of_mem _ z.1,z.2⟩,fun z=>z.elim fun i z=>(List.mem_cons.mp z.1).elim (fun e=>absurd (e▸z.2) h) fun m=>⟨i,m,z.2⟩⟩
theorem HS (s:List Nat) (limit:Nat):(nE s jX 0 s.length limit).length<=s.length+1:=by
 unfold nE
 have:=FQ (fun i=>decide (i+jX.length<=s.length)&&K2 s jX i) jX.length limit (List.range' 0 (s.length+1-0)) 0 0
 rw [List.length_range'] at this
 omega
theorem qN (s cuts:List Nat):(lV s cuts 3).length=cuts.length+1:=by
 unfold lV
 rw [List.length_map,List.length_zip,List.length_cons,List.length_map,List.length_append]
 show min _ (_+1)=_
 lia
theorem wJ {s cuts p:List Nat} (h:p∈lV s cuts 3):p.length<=s.length:=by
 obtain ⟨q,_,rfl⟩:=List.mem_map.mp h
 rw [List.length_take,List.length_drop]
 exact Nat.le_trans (Nat.min_le_right _ _) (Nat.sub_le _ _)
theorem NQ {f:Addr} (D:DefAt W f (aT 7) ["want","got"]) (G:Glb W) (hm:∃t,W.mg "ELLIPSIS_MARKER" = some (.str "..." t)) {w g:Str} (h1:w.length<=300) (h2:g.length<=300):Fn W (n+2) f [.str w,.str g] (.bool (em w g)):=by
 revert D G hm h1 h2;revert W n f w g;refine no_implicit_lambda%(hK5 ?_);generalize (HK5 _).1=W,(HK5 _).2.1=n,(HK5 _).2.2.1=f,(HK5 _).2.2.2.1=w,(HK5 _).2.2.2.2=g;intro D G hm h1 h2
 have hw:w=S w.cps.toList:=(M9 w).symm
 generalize w.cps.toList=l at hw
 subst hw
 rw [bQ] at h1
 have ho:=HS l (l.length+1)
 refine JY D G hm (by rw [bQ]; lia) (by lia) (fun hc=>?_) (fun x hx=>?_) ?_
 ·rw [qJ] at hc
  unfold eX at hc
  rw [Bool.not_eq_true',List.isEmpty_eq_false_iff] at hc
  have h3:nE l jX 0 l.length (l.length+1)≠[]:=by
   unfold nE at hc ⊢
   rw [AJ _ _ _ _ _ _ (by lia)] at hc ⊢
   exact hc
  have hl3:¬l.length<3:=fun q=>by
   unfold nE at hc
   rw [AJ _ _ _ _ _ _ (by lia)] at hc
   obtain ⟨i,_,_,q2⟩:=hc
   rw [Bool.and_eq_true,decide_eq_true_eq] at q2
   have:=q2.1
   have e:jX.length=3:=rfl
   lia
  rw [uS,List.length_map]
  unfold kE
  rw [if_neg (by
   rw [Bool.or_eq_true,decide_eq_true_eq,List.isEmpty_iff]
   rintro (q|q)
   ·exact hl3 q
   ·exact h3 q),qN]
  have:=List.length_pos_iff.mpr h3
  lia
 ·rw [uS] at hx
  obtain ⟨p,hp,rfl⟩:=List.mem_map.mp hx
  rw [bQ]
  unfold kE at hp
  split at hp
  ·rw [List.mem_singleton.mp hp]; lia
  ·have:=wJ hp; lia
 ·rw [zD,bQ,bQ,w9,A0,List.length_map]
  show (lV l _ 3).length<=_
  rw [qN,sizeLine_eq]
  lia
end
section
variable {W:Wd} {n:Nat} {K:Frag} {T cc fI fPush fPop fLen fStr fPc:Addr}
section
variable {A B:Nat->Nat}
theorem IP (hA:∀y,y<5->A y<32) {y:Nat} (hy:y<5):JoinOk "." (hostOf A B y)=true:=by
 refine pM (B:=5) (fun t ht=>?_) ?_
 ·rcases List.mem_append.mp ht with ht|ht
  ·obtain ⟨z,hz,rfl⟩:=List.mem_map.mp ht
   have:=mR hz
   refine F8 (show z<5 by lia) ?_ ?_ ?_ ?_ ?_<;>decide +kernel
  ·rw [List.mem_singleton.mp ht]; decide
 ·rw [eQ]
  have:=g5 (B:=B) (hA y hy)
  have e:(".":Str).length=1:=rfl
  rw [e]
  lia
theorem sX (y:Nat):Txt.join "." (hostOf A B y)=S ((dotT (hl A B y)).drop 1):=iZ fun z hz=>mR hz
theorem IV (hA:∀y,y<5->A y<32) {y:Nat} (hy:y<5):(Txt.join "." (hostOf A B y)).length<=100:=by
 rw [sX,bQ,List.length_drop,bS]
 have:=g5 (B:=B) (hA y hy)
 lia
theorem J7 (hA:∀y,y<5->A y<32) {y:Nat} (hy:y<5):(Txt.upper (Txt.join "." (hostOf A B y))).length<=100:=by
 rw [sX,tY fun c hc=>mG (eY (fun z hz=>mR hz) c (List.mem_of_mem_drop hc)),bQ,List.length_map,List.length_drop,bS]
 have:=g5 (B:=B) (hA y hy)
 lia
theorem mT (Q:Plain A B) {y:Nat} (hy:y<5):∃k,fF A y+fF B y+k+1=(lsP A B).length/\eC (lsP A B) y=rZ (fF A y) (k+1):=by
 obtain ⟨h1,h2⟩:=Q.st y hy
 rw [J6] at h2
 refine ⟨(lsP A B).length-fF B y-fF A y-1,ar9 h1,?_⟩
 rw [h2]
 congr 1
 exact Q9 h1
theorem tR (Q:Plain A B) {x y:Nat} (hx:x<5) (hy:y<5):pF (eC (lsP A B) x) (eC (lsP A B) y)=(Nat.blt (fF A x) (fF A y)&&Nat.blt (fF B x) (fF B y)):=by
 obtain ⟨j,j1,j2⟩:=mT Q hx
 obtain ⟨k,k1,k2⟩:=mT Q hy
 unfold pF
 rw [j2,k2,tT,tT,tE,tE,Bool.eq_iff_iff,Bool.and_eq_true,Bool.and_eq_true,decide_eq_true_eq,decide_eq_true_eq,gF,gF]
 lia
theorem EY (Q:Plain A B):(pI (lsP A B)).isEmpty = !MZ A B (orF A B):=by
 revert A B;refine no_implicit_lambda%(hK2 ?_);generalize (HK2 _).1=A,(HK2 _).2=B;intro Q
 unfold pI
 rw [eV,←Q.wi]
 congr 1
 rw [Bool.eq_iff_iff,List.any_eq_true,dM]
 constructor
 ·rintro ⟨p,hp,h⟩
  obtain ⟨h1,h2⟩:=gH hp
  rw [tR Q h1 h2] at h
  exact ⟨p.1,h1,dM.mpr ⟨p.2,h2,h⟩⟩
 ·rintro ⟨x,hx,h⟩
  obtain ⟨y,hy,h⟩:=dM.mp h
  exact ⟨(x,y),rU hx hy,by rw [tR Q hx hy]; exact h⟩
theorem zR:∀(l:List (List Nat)) {N:Nat},N=l.length->(List.range N).map (fun i=>Dat.tuple (namesL (l.getD i [])))=l.map fun m=>.tuple (namesL m):=by
 intro l N h
 subst h
 have:=j5 l
 conv=>rhs; rw [←this]
 rw [List.map_map]
 rfl
variable {fO fH fM fD fRd fC fF p d:Addr} {aL bL:List Int}
theorem NT (G:Glb W) (D17:DefAt W fM (aT 17) ["number"]) (NM:FnName W "_law_members" fM) (D20:DefAt W fC (aT 20) ["ahead","behind"]) (D21:DefAt W fRd (aT 21) ["hosts","lies"]) (D4:DefAt W fF (aT 4) ["resp"]) (NF:FnName W "ParseFlags" fF)
  (hm:W.mg "Flags" = some (.ref p)) (Pt:PatAt W p o5 1 1 (.ref d)) (N:NamesAt W d) (DM:DmAt W fD) (ND:FnName W "domain_match" fD) (U:PageW W K T cc fI fPush fPop fLen fStr fPc)
  (Q:Plain A B) (hA:∀y,y<5->A y<32) (hB:∀y,y<5->B y<32) (la:aL=(List.range 5).map fun y=>(A y:Int)) (lb:bL=(List.range 5).map fun y=>(B y:Int)) :
  LawB W 7 fRd fC aL bL (hostOf A B) (told A B) (lsP A B) ((A4 A).map fun (x:Nat)=>(x:Int)) ((A4 B).map fun (x:Nat)=>(x:Int)) (Mine.fF A) (Mine.fF B):=by
 have ha:∀y,y<5->aL.getD y 0=(A y:Int):=fun y hy=>by
  rw [la,List.getD_eq_getElem?_getD,List.getElem?_map,List.getElem?_range hy]; rfl
 have hb:∀y,y<5->bL.getD y 0=(B y:Int):=fun y hy=>by
  rw [lb,List.getD_eq_getElem?_getD,List.getElem?_map,List.getElem?_range hy]; rfl
 have l5:aL.length=5:=by rw [la]; rfl
 have m5:bL.length=5:=by rw [lb]; rfl
 have hls:=uI (A:=A) (B:=B)
 have hen:((A4 B).map fun (x:Nat)=>(x:Int)).length=(lsP A B).length:=by rw [List.length_map]; exact Q.len.symm
 refine ⟨?_,IG (n:=3) D20 G NM D17 l5 m5 hA hB ha hb Q.inc Q.leq hls,by lia,fun m hm z hz=>?_,fun y hy=>?_,?_,(pP la).1,(pP la).2,(pP lb).1,(pP lb).2,?_,hen.symm,fun y hy=>vW ha hy,fun y hy=>vW hb hy,fun y hy=>?_,fun y hy=>?_⟩
 ·obtain ⟨ini,h,e,R⟩:=GT (fD:=fD) (n:=0) D4 G hm Pt N DM Q hA
  have:=CK D21 G U NF ND R
  rw [List.length_append] at e
  rw [zR (lsP A B) (N:=ini.length+1) e] at this
  exact this
 ·exact (nC (l4 m hm)).lt z hz
 ·obtain ⟨k,_,h⟩:=mT Q hy
  rw [h]
  exact List.cons_ne_nil _ _
 ·rw [EY Q,JM hA hB ha hb]
 ·rw [List.length_map]
  have:=H4 A
  lia
 ·rw [hen]
  obtain ⟨k,h,_⟩:=mT Q hy
  lia
 ·rw [hen]
  obtain ⟨k,h,e⟩:=mT Q hy
  rw [e,BN]
  congr 1
  exact ar7 h
variable {fE:Addr}
theorem NW (G:Glb W) (D7:DefAt W fE (aT 7) ["want","got"]) (NE:FnName W "_ellipsis_match" fE) (mk:∃t,W.mg "ELLIPSIS_MARKER" = some (.str "..." t)) (D18:DefAt W fO (aT 18) ["one","two"]) (D19:DefAt W fH (aT 19) ["ahead","behind","y"])
  (D17:DefAt W fM (aT 17) ["number"]) (NM:FnName W "_law_members" fM) (D20:DefAt W fC (aT 20) ["ahead","behind"]) (D21:DefAt W fRd (aT 21) ["hosts","lies"]) (D4:DefAt W fF (aT 4) ["resp"]) (NF:FnName W "ParseFlags" fF)
  (hm:W.mg "Flags" = some (.ref p)) (Pt:PatAt W p o5 1 1 (.ref d)) (N:NamesAt W d) (DM:DmAt W fD) (ND:FnName W "domain_match" fD) (U:PageW W K T cc fI fPush fPop fLen fStr fPc) {r s:List Nat} (hr:r∈rowsN) (hs:s∈rowsN) :
  ∃aL bL hostOf told,LawA W 7 fO fH fD fRd fC (S r) (S s) aL bL hostOf told:=by
 let f:=bothOf (S r) (S s) EL
 have ir:∀x,x<5->f x x=false:=fun x _=>by
  show (decide _&&decide _)=false
  rw [decide_eq_false (by lia),Bool.false_and]
 have tr:∀x y z,x<5->y<5->z<5->f x y=true->f y z=true->f x z=true:=fun x y z _ _ _ h1 h2=>by
  have h1:(decide _&&decide _)=true:=h1
  have h2:(decide _&&decide _)=true:=h2
  show (decide _&&decide _)=true
  rw [Bool.and_eq_true,decide_eq_true_eq,decide_eq_true_eq] at h1 h2 ⊢
  lia
 have hchk:=C4 f ir tr
 generalize eA:lH (aM f 0) (aM f 1) (aM f 2) (aM f 3) (aM f 4)=A at hchk
 generalize eB:lH (bM f 0) (bM f 1) (bM f 2) (bM f 3) (bM f 4)=B at hchk
 have vA:∀y,y<5->A y=aM f y:=fun y hy=>by rw [←eA]; exact CO (aM f) hy
 have vB:∀y,y<5->B y=bM f y:=fun y hy=>by rw [←eB]; exact CO (bM f) hy
 have hA:∀y,y<5->A y<32:=fun y hy=>by rw [vA y hy]; exact M5 f y
 have hB:∀y,y<5->B y<32:=fun y hy=>by rw [vB y hy]; exact N5 f y
 obtain ⟨o1,o2⟩:=LJ f
 have la:(bP f 5).1=(List.range 5).map fun y=>(A y:Int):=by
  rw [o1]
  exact List.map_congr_left fun y hy=>by rw [vA y (List.mem_range.mp hy)]
 have lb:(bP f 5).2=(List.range 5).map fun y=>(B y:Int):=by
  rw [o2]
  exact List.map_congr_left fun y hy=>by rw [vB y (List.mem_range.mp hy)]
 have hO:=zJ (n:=4) (fE:=fE) D18 G NE (fun w g h1 h2=>NQ (n:=4) D7 G mk h1 h2) (LC hr hs)
 have hO:Fn W 7 fO [.str (S r),.str (S s)] (.tuple [aG (bP f 5).1,aG (bP f 5).2]):=hO
 generalize (bP f 5).1=aL at la hO
 generalize (bP f 5).2=bL at lb hO
 have ha:∀y,y<5->aL.getD y 0=(A y:Int):=fun y hy=>by
  rw [la,List.getD_eq_getElem?_getD,List.getElem?_map,List.getElem?_range hy]; rfl
 have hb:∀y,y<5->bL.getD y 0=(B y:Int):=fun y hy=>by
  rw [lb,List.getD_eq_getElem?_getD,List.getElem?_map,List.getElem?_range hy]; rfl
 have l5:aL.length=5:=by rw [la]; rfl
 have m5:bL.length=5:=by rw [lb]; rfl
 refine ⟨aL,bL,hostOf A B,told A B,l5,m5,hO,fun y hy=>JA (n:=3) D19 G NM D17 l5 m5 hA hB ha hb hy,fun y hy=>IP hA hy,fun y hy=>IV hA hy,fun y hy=>J7 hA hy,
  fun x y hx hy=>JZ (n:=4) DM (hA x hx) (hA y hy),M8 hA ha fun hc=>(wI hchk hc).told,fun y hy=>?_,fun x y _ _=>M4 x y,fun hc=>?_⟩
 ·rw [eQ]
  have:=g5 (B:=B) (hA y hy)
  lia
 ·rw [oI hA ha,Bool.not_eq_true'] at hc
  exact ⟨_,_,_,_,_,NT G D17 NM D20 D21 D4 NF hm Pt N DM ND U (wI hchk hc) hA hB la lb⟩
theorem LG {f fR:Addr} (D22:DefAt W f (aT 22) ["script"]) (G:Glb W) (NO:FnName W "_law_order" fO) (NR:FnName W "_law_row" fR) (D16:DefAt W fR (aT 16) ["number"]) (NH:FnName W "_law_host" fH) (NRd:FnName W "_law_read" fRd) (NC:FnName W "_law_companies" fC)
  (D7:DefAt W fE (aT 7) ["want","got"]) (NE:FnName W "_ellipsis_match" fE) (mk:∃t,W.mg "ELLIPSIS_MARKER" = some (.str "..." t)) (D18:DefAt W fO (aT 18) ["one","two"]) (D19:DefAt W fH (aT 19) ["ahead","behind","y"])
  (D17:DefAt W fM (aT 17) ["number"]) (NM:FnName W "_law_members" fM) (D20:DefAt W fC (aT 20) ["ahead","behind"]) (D21:DefAt W fRd (aT 21) ["hosts","lies"]) (D4:DefAt W fF (aT 4) ["resp"]) (NF:FnName W "ParseFlags" fF)
  (hm:W.mg "Flags" = some (.ref p)) (Pt:PatAt W p o5 1 1 (.ref d)) (N:NamesAt W d) (DM:DmAt W fD) (ND:FnName W "domain_match" fD) (U:PageW W K T cc fI fPush fPop fLen fStr fPc) {zs:List Int} (hz:zs.length<=63):Fn W 8 f [aG zs] (.bool true):=by
 refine HR (n:=6) D22 G NO NR D16 NH ND NRd NC hz fun c0 c1=>?_
 obtain ⟨r,hr,er⟩:=E8 c0
 obtain ⟨s,hs,es⟩:=E8 c1
 rw [er,es]
 exact NW G D7 NE mk D18 D19 D17 NM D20 D21 D4 NF hm Pt N DM ND U hr hs
end
end
end
section
open PySem PySem.W PySem.Calls PyProof.Rows PySem.SeqAt
section
variable {W:Wd} {K:Frag}
theorem yH (hW:W.tb=l9) (X:K.In W.top) {f c:Addr} {st:Stmt} {cl:List (Str×Addr)} (k:FnK K f c st cl) (hf:f∉l9):IsFn W f (c7 K f):=
 ⟨⟨_,X _ _ k.look,k.data⟩,by rw [hW]; exact hf⟩
theorem kA (hW:W.tb=l9) (X:K.In W.top) {f c:Addr} {st:Stmt} {ps:List Str} (k:FnK K f c st []) (hf:f∉l9) (hc:c∉l9) (hb:∀vs:List Value,vs.length=ps.length->bindArgs (c7 K f) ⟨vs,[]⟩=pure (ps.zip vs)):DefAt W f st ps:=
 ⟨⟨c7 K f,⟨yH hW X k hf,⟨c,_,_,_,k.code,X _ _ k.clook,k.cdata,k.q,by rw [hW]; exact hc⟩,k.body,k.clo,k.glob,k.blt⟩,k.scope,hb⟩⟩
theorem yO (hW:W.tb=l9) (X:K.In W.top) {f c:Addr} {st:Stmt} {cl:List (Str×Addr)} (k:FnK K f c st cl) (m:MK W.prog K f c) (hf:f∉l9) (hc:c∉l9):MDef W f (c7 K f) (dW st) cl:=
 ⟨yH hW X k hf,⟨c,_,_,_,_,_,k.code,X _ _ k.clook,k.cdata,k.q,by rw [hW]; exact hc,m.f2,m.file⟩,k.body,k.clo,k.glob,k.blt,by simpa using m.kind,m.co,m.gen,fun x hx=>by
  have:=List.all_eq_true.mp m.cells x hx
  simpa using this⟩
theorem GV (hW:W.tb=l9) (X:K.In W.top) {f c:Addr} {st:Stmt} {cl:List (Str×Addr)} {ps:List Str} (k:FnK K f c st cl) (m:MK W.prog K f c) (hf:f∉l9) (hc:c∉l9) (hb:∀vs:List Value,vs.length=ps.length->bindArgs (c7 K f) ⟨vs,[]⟩=pure (ps.zip vs)):MAt W f st cl ps:=
 ⟨⟨c7 K f,yO hW X k m hf hc,k.scope,k.params,hb⟩⟩
theorem n9 {h:Heap} (X:K.In h) {c P:Addr} (t:TabK K c P):h.TableAt c P #[]:=
 ⟨⟨_,_,X _ _ t.clook,t.cls,t.cdata,t.f11⟩,X _ _ t.tab⟩
theorem G2 {h:Heap} (X:K.In h) {c P:Addr} (t:TabK K c P) (hne:c≠P):h.IsCode c P #[]:=
 ⟨_,_,_,_,_,_,_,_,_,_,X _ _ t.clook,t.cdata,t.d11,t.d18,t.d7,t.d9,t.d10,X _ _ t.tab,rfl,trivial,hne⟩
theorem KP (hW:W.tb=l9) (X:K.In W.top) {f c P:Addr} {st:Stmt} (k:FnK K f c st []) (m:MK W.prog K f c) (t:TabK K c P) (hP:P∈l9) (hf:f∉l9) (hc:c∉l9) (hb:∀v:Value,bindArgs (c7 K f) ⟨[v],[]⟩=pure [(("self":Str),v)]):GAt W f st:=
 ⟨⟨c7 K f,yO hW X k m hf hc,k.scope,hb,c,P,k.code,⟨by rw [hW]; exact hP,_,G2 X t (fun e=>hc (e▸hP)),n9 X t⟩⟩⟩
end
section
variable {W:Wd} {K:Frag}
theorem K3 (hW:W.tb=l9) (X:K.In W.top) {p c:Addr} {code:Array Nat} {groups kind:Nat} {names:Value} (k:PatK K p c code groups kind names) (hp:p∉l9) (hc:c∉l9):PatAt W p code groups kind names:=
 ⟨⟨_,_,_,_,_,_,X _ _ k.look,k.cls,k.dict,k.data,k.f2,k.f3,k.f5,k.f6,X _ _ k.clook,k.cdata,k.code,by rw [hW]; exact hc⟩,by rw [hW]; exact hp⟩
theorem IN (hW:W.tb=l9) (X:K.In W.top) {d:Addr} (hd:d∉l9) (k:K.lookup d=some ⟨.type "dict",none,.dict #[⟨PyData.keyHash W.w.params "flags",.str "flags" (JQ K d).1,.int 1 (JQ K d).2⟩] (OO K d),#[]⟩):NamesAt W d:=by
 revert hW X hd k;revert W K d;refine no_implicit_lambda%(hK3 ?_);generalize (HK3 _).1=W,(HK3 _).2.1=K,(HK3 _).2.2=d;intro hW X hd k
 refine ⟨fun h hh=>?_,by rw [hW]; exact hd⟩
 have X':Frag.In [(d,(⟨.type "dict",none,.dict #[⟨PyData.keyHash W.w.params "flags",.str "flags" (JQ K d).1,.int 1 (JQ K d).2⟩] (OO K d),#[]⟩:Obj))] h:=fun a o e=>by
  rw [List.lookup_cons] at e
  by_cases q:a=d
  ·subst q
   rw [beq_self_eq_true] at e
   cases e
   exact hh _ (X _ _ k)
  ·rw [beq_eq_false_iff_ne.mpr q] at e
   cases e
 refine ⟨_,(JQ K d).2,mapOf_K (prog:=W.prog) (w:=W.w) X' (a:=d) (n:=OO K d) (es:=#[⟨PyData.keyHash W.w.params "flags",.str "flags" (JQ K d).1,.int 1 (JQ K d).2⟩]) (by rw [List.lookup_cons,beq_self_eq_true]) ⟨⟨_,_,rfl,rfl⟩,trivial⟩,?_⟩
 kernel_rfl
theorem AH {K:Frag} {b:Addr} {o:Obj}:(kf K).lookup b=some o->K.lookup b=some o/\b∉l9:=by
 induction K with
 | nil=>exact fun h=>nomatch h
 | cons p K ih =>
  intro h
  by_cases q:b=p.1
  ·cases e:l9.contains p.1 with
   | true =>
    have e1:kf (p::K)=kf K:=List.filter_cons_of_neg (by rw [e]; exact Bool.false_ne_true)
    rw [e1] at h
    exact absurd (q▸List.contains_iff_mem.mp e) (ih h).2
   | false =>
    have e1:kf (p::K)=p::kf K:=List.filter_cons_of_pos (by rw [e]; rfl)
    rw [e1,q,List.lookup_cons,beq_self_eq_true] at h
    refine ⟨by rw [q,List.lookup_cons,beq_self_eq_true]; exact h,fun z=>?_⟩
    rw [←q,List.contains_iff_mem.mpr z] at e
    exact nomatch e
  ·have q':(b==p.1)=false:=beq_eq_false_iff_ne.mpr q
   have h':(kf K).lookup b=some o:=by
    cases e:l9.contains p.1 with
    | true=>rwa [show kf (p::K)=kf K from List.filter_cons_of_neg (by rw [e]; exact Bool.false_ne_true)] at h
    | false=>rwa [show kf (p::K)=p::kf K from List.filter_cons_of_pos (by rw [e]; rfl),List.lookup_cons,q'] at h
   exact ⟨by rw [List.lookup_cons,q']; exact (ih h').1,(ih h').2⟩
theorem OU {α:Type} {P:List α->Prop} (h:P []):∀l,l.length=0->P l:=fun l hl=>by
 cases l with
 | nil=>exact h
 | cons=>exact absurd hl (Nat.succ_ne_zero _)
theorem M1 {α:Type} {P:List α->Prop} {n:Nat} (h:∀a l,l.length=n->P (a::l)):∀l,l.length=n+1->P l:=fun l hl=>by
 cases l with
 | nil=>exact absurd hl.symm (Nat.succ_ne_zero _)
 | cons a l=>exact h a l (Nat.succ.inj hl)
theorem yW {fd:FuncData} {p:Str} (h:∀a,bindArgs fd ⟨[a],[]⟩=pure [(p,a)]):∀vs:List Value,vs.length=[p].length->bindArgs fd ⟨vs,[]⟩=pure ([p].zip vs):=
 M1 (P:=fun vs=>bindArgs fd ⟨vs,[]⟩=pure ([p].zip vs)) fun a=>OU (P:=fun l=>bindArgs fd ⟨a::l,[]⟩=pure ([p].zip (a::l))) (h a)
theorem EP {fd:FuncData} {p q:Str} (h:∀a b,bindArgs fd ⟨[a,b],[]⟩=pure [(p,a),(q,b)]):∀vs:List Value,vs.length=[p,q].length->bindArgs fd ⟨vs,[]⟩=pure ([p,q].zip vs):=
 M1 (P:=fun vs=>bindArgs fd ⟨vs,[]⟩=pure ([p,q].zip vs)) fun a=>M1 (P:=fun l=>bindArgs fd ⟨a::l,[]⟩=pure ([p,q].zip (a::l))) fun b=>OU (P:=fun l=>bindArgs fd ⟨a::b::l,[]⟩=pure ([p,q].zip (a::b::l))) (h a b)
theorem GA {fd:FuncData} {p q r:Str} (h:∀a b c,bindArgs fd ⟨[a,b,c],[]⟩=pure [(p,a),(q,b),(r,c)]):∀vs:List Value,vs.length=[p,q,r].length->bindArgs fd ⟨vs,[]⟩=pure ([p,q,r].zip vs):=
 M1 (P:=fun vs=>bindArgs fd ⟨vs,[]⟩=pure ([p,q,r].zip vs)) fun a=>M1 (P:=fun l=>bindArgs fd ⟨a::l,[]⟩=pure ([p,q,r].zip (a::l))) fun b=>M1 (P:=fun l=>bindArgs fd ⟨a::b::l,[]⟩=pure ([p,q,r].zip (a::b::l))) fun c=>OU (P:=fun l=>bindArgs fd ⟨a::b::c::l,[]⟩=pure ([p,q,r].zip (a::b::c::l))) (h a b c)
theorem N6 (hW:W.tb=l9) (wok:WOk W) (X:K.In W.top) (k:KAll W.prog W.w.params K) (hb:∀x:Str,x ≠ "__name__" -> W.mb x=bootBuiltins x) (Bt:BltAt W) {zs:List Int} (hz:zs.length<=63):Fn W 8 199 [aG zs] (.bool true):=by
 revert hW wok X k hb Bt hz;revert W K zs;refine no_implicit_lambda%(hK3 ?_);generalize (HK3 _).1=W,(HK3 _).2.1=K,(HK3 _).2.2=zs;intro hW wok X k hb Bt hz
 have mg:∀ {x:Str} {v:Value},nsIn K mainGlobals x=some (some v)->W.mg x=some v:=fun e=>mg_of X wok.mg e
 have mn:∀x:Str,x∈(["range","len","sorted","set","list","tuple","str","super","sum"]:List Str)->W.mg x=none:=fun x hx=>by
  have:=List.all_eq_true.mp k.none_ x hx
  refine mg_none_of X wok.mg ?_
  revert this
  cases nsIn K mainGlobals x with
  | none=>exact jD
  | some o=>cases o with
   | none=>exact fun _=>rfl
   | some=>exact jD
 have X':(kf K).In W.top:=fun b o e=>X _ _ (AH e).1
 have G:Glb W:=⟨⟨mn _ (by decide),by rw [hb _ (by decide)]; kernel_rfl⟩,⟨mn _ (by decide),by rw [hb _ (by decide)]; kernel_rfl⟩,⟨mn _ (by decide),by rw [hb _ (by decide)]; kernel_rfl⟩,⟨mn _ (by decide),by rw [hb _ (by decide)]; kernel_rfl⟩,⟨mn _ (by decide),by rw [hb _ (by decide)]; kernel_rfl⟩,⟨mn _ (by decide),by rw [hb _ (by decide)]; kernel_rfl⟩,⟨mn _ (by decide),by rw [hb _ (by decide)]; kernel_rfl⟩⟩
 have fn:∀ {x:Str} {f c:Addr} {st:Stmt} {cl:List (Str×Addr)},nsIn K mainGlobals x=some (some (.ref f))->FnK K f c st cl->f∉l9->FnName W x f:=fun e q hf=>⟨mg e,_,yH hW X q hf⟩
 have D4:=kA hW X k.f4 (by decide) (by decide) (yW k.b4)
 have D7:=kA hW X k.f7 (by decide) (by decide) (EP k.b7)
 have D13:=kA hW X k.f13 (by decide) (by decide) (yW k.b13)
 have D14:=kA hW X k.f14 (by decide) (by decide) (EP k.b14)
 have D16:=kA hW X k.f16 (by decide) (by decide) (yW k.b16)
 have D17:=kA hW X k.f17 (by decide) (by decide) (yW k.b17)
 have D18:=kA hW X k.f18 (by decide) (by decide) (EP k.b18)
 have D19:=kA hW X k.f19 (by decide) (by decide) (GA k.b19)
 have D20:=kA hW X k.f20 (by decide) (by decide) (EP k.b20)
 have D21:=kA hW X k.f21 (by decide) (by decide) (EP k.b21)
 have D22:=kA hW X k.f22 (by decide) (by decide) (yW k.b22)
 have Pt:=K3 hW X k.p1 (by decide) (by decide)
 have Pi:=K3 hW X k.p2 (by decide) (by decide)
 have N:=IN hW X (by decide) k.n1
 have DM:DmAt W 160:=⟨D14,153,146,fn k.gHD k.f13 (by decide),D13,mg k.gIp,Pi⟩
 have acc:AccAt W (kf K) 137:=⟨X',fun b o e=>by rw [hW]; exact (AH e).2,k.ga,k.gx,k.lst,k.obj,k.iter,k.app⟩
 have sup:SupAt W (kf K) 137 61:=⟨acc,⟨_,X _ _ k.celll,k.cell⟩,k.self,⟨_,k.cd,by simpa using k.cdq,k.cdm⟩,k.typ,k.mod,k.opq,mn _ (by decide),by rw [hb _ (by decide)]; kernel_rfl,k.sup⟩
 have U:PageW W (kf K) 137 61 74 81 97 104 111 134:=
  ⟨⟨sup,GV hW X k.m8 k.k8 (by decide) (by decide) (yW k.c8),k.hPc.1,k.hPc.2⟩,k.set,k.make,⟨⟨_,yO hW X k.m0 k.k0 (by decide) (by decide),k.m0.scope,k.m0.params,fun s g B a b M A E Q hq=>Looks.of_peek (acc.In B) (k.c0 ⟨M.prog,M.w.params⟩ a b) A Q E s (fun _ _ e=>e) hq⟩⟩,GV hW X k.m1 k.k1 (by decide) (by decide) (GA k.c1),
   GV hW X k.m3 k.k3 (by decide) (by decide) (yW k.c3),KP hW X k.m4 k.k4 k.t4 (by decide) (by decide) (by decide) k.c4,KP hW X k.m5 k.k5 k.t5 (by decide) (by decide) (by decide) k.c5,
   k.hPush,k.hPop,k.hLen,k.hStr,k.lpop,Bt,k.keep,mg k.gAc,⟨_,mg k.gEs⟩,mn _ (by decide),by rw [hb _ (by decide)]; kernel_rfl⟩
 exact LG D22 G (fn k.gOr k.f18 (by decide)) (fn k.gRo k.f16 (by decide)) D16 (fn k.gHo k.f19 (by decide)) (fn k.gRe k.f21 (by decide)) (fn k.gCo k.f20 (by decide)) D7 (fn k.gEM k.f7 (by decide)) ⟨_,mg k.gEl⟩ D18 D19
  D17 (fn k.gMe k.f17 (by decide)) D20 D21 D4 (fn k.gPF k.f4 (by decide)) (mg k.gFl) Pt N DM (fn k.gDM k.f14 (by decide)) U hz
end
theorem law_go {K:Frag} {prog:Program} {w:World} {s₁:Shared} {mg mb:Str->Option Value} {Q:Value->Shared->Prop} {E:Value->Shared->Prop} {zs:List Int} {vs:List Value} (KX:K.In s₁.heap) (k:KAll prog w.params K)
  (nl:s₁.heap.NoLimit) (hG:s₁.heap.Ns mainGlobals mg) (hB:s₁.heap.Ns builtinsNs mb) (hb:∀x:Str,x ≠ "__name__" -> mb x=bootBuiltins x)
  (bm:∃bm ob,mg "__builtins__" = some (.ref bm)/\bm≠builtinsNs/\s₁.heap.get? bm=some ob/\ob.cls=.type "module" /\ ob.dict=some builtinsNs/\ob.data=.plain)
  (hg:s₁.gens = #[]) (hl:s₁.heap.get? 200=some { cls:=.type "list",data:=.seq vs.toArray }) (hi:IntsAre vs zs) (hz:zs.length<=63)
  (h:∀s',OldK s₁.heap s'.heap->s'.os=s₁.os->AllBare s'.gens->Q (.bool true) s'):wpAny (model prog w) callerA (call (.ref 199) [.ref 200]) Q E s₁:=by
 let W:Wd:=⟨prog,w,s₁.heap,l9,s₁.os,mg,mb⟩
 have wok:WOk W:=⟨fun b hb=>by
  have hb:b∈l9:=hb
  simp only [List.mem_cons,List.not_mem_nil,or_false] at hb
  rcases hb with rfl|rfl
  ·exact ⟨103,_,n9 KX k.t4⟩
  ·exact ⟨110,_,n9 KX k.t5⟩,hG,hB,nl⟩
 have bare:AllBare s₁.gens:=.of_eq hg
 have B:Base W s₁ [(200,listOf vs.toArray 0)]:=⟨wok,fun p hp=>by
  rw [List.mem_singleton.mp hp]
  exact ⟨hl,show (200:Nat)∉l9 from by decide⟩,fun b o e _=>e,OldK.refl _,bare,rfl,fun b hb c ps0 h1 h2=>⟨ps0,h1,h2⟩⟩
 have Bt:BltAt W:=by
  obtain ⟨bm,ob,e1,e2,e3,e4,e5,e6⟩:=bm
  exact ⟨⟨bm,ob,e1,e2,e3,e4,e5,e6,wok.data_tb (OldK.refl _) e3 (by rw [e6]; intro _ z; cases z)⟩⟩
 have F:=N6 (W:=W) rfl wok KX k hb Bt hz
 refine wpAny_mono (A1 F ⟨rfl,by decide,by decide⟩ B (.cons (.list (List.mem_singleton.mpr rfl) (wV hi)) .nil)) (fun v s' q=>?_) fun _ _ z=>z
 obtain ⟨g',x,d⟩:=q
 cases d
 exact h s' (x.old (OldK.refl _)) x.os (x.bare bare)
end

end Mine
theorem PySem.Challenge.cw_xt0006_01_holds : PySem.Challenge.rw_xt0006_01.Holds := by
 exact Mine.Hd.head_first @Mine.law_go
