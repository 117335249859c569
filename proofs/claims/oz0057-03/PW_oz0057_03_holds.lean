import PyProof.Rows.All
import Wide.All
import OpenK.AllK
import Wide.FinOn
import Lean
import PySem.Challenge.RW_oz0057_03
set_option Elab.async false
section HK3
open PySem PySem.W PySem.Calls PyProof.Rows
set_option Elab.async false
set_option linter.unusedVariables false
namespace Mine
def fnAt (l : List Stmt) (i : Nat) : Option (Arguments × List Stmt × Scope) := match l[i]? with | some (.FunctionDef _ a b _ _ _ s _ _ _) => some (a, b, s) | _ => none
def clAt (l : List Stmt) (i : Nat) : List Stmt := match l[i]? with | some (.ClassDef _ _ _ b _ _ _ _ _ _ _) => b | _ => []
set_option maxRecDepth 100000 in
set_option maxHeartbeats 0 in
noncomputable def K3 : Params → Frag := fun P =>
  letI a__wall : Arguments := _
  letI b__wall : List Stmt := _
  letI s__wall : Scope := _
  haveI : fnAt PySem.Challenge.pw_oz0057_03.main.body 1 = some (a__wall, b__wall, s__wall) := rfl
  letI a_NormalDist___init__ : Arguments := _
  letI b_NormalDist___init__ : List Stmt := _
  letI s_NormalDist___init__ : Scope := _
  haveI : fnAt (clAt PySem.Challenge.pw_oz0057_03.main.body 4) 1 = some (a_NormalDist___init__, b_NormalDist___init__, s_NormalDist___init__) := rfl
  letI a_NormalDist_from_samples : Arguments := _
  letI b_NormalDist_from_samples : List Stmt := _
  letI s_NormalDist_from_samples : Scope := _
  haveI : fnAt (clAt PySem.Challenge.pw_oz0057_03.main.body 4) 2 = some (a_NormalDist_from_samples, b_NormalDist_from_samples, s_NormalDist_from_samples) := rfl
  letI a_NormalDist_samples : Arguments := _
  letI b_NormalDist_samples : List Stmt := _
  letI s_NormalDist_samples : Scope := _
  haveI : fnAt (clAt PySem.Challenge.pw_oz0057_03.main.body 4) 3 = some (a_NormalDist_samples, b_NormalDist_samples, s_NormalDist_samples) := rfl
  letI a_NormalDist_pdf : Arguments := _
  letI b_NormalDist_pdf : List Stmt := _
  letI s_NormalDist_pdf : Scope := _
  haveI : fnAt (clAt PySem.Challenge.pw_oz0057_03.main.body 4) 4 = some (a_NormalDist_pdf, b_NormalDist_pdf, s_NormalDist_pdf) := rfl
  letI a_NormalDist_cdf : Arguments := _
  letI b_NormalDist_cdf : List Stmt := _
  letI s_NormalDist_cdf : Scope := _
  haveI : fnAt (clAt PySem.Challenge.pw_oz0057_03.main.body 4) 5 = some (a_NormalDist_cdf, b_NormalDist_cdf, s_NormalDist_cdf) := rfl
  letI a_NormalDist_inv_cdf : Arguments := _
  letI b_NormalDist_inv_cdf : List Stmt := _
  letI s_NormalDist_inv_cdf : Scope := _
  haveI : fnAt (clAt PySem.Challenge.pw_oz0057_03.main.body 4) 6 = some (a_NormalDist_inv_cdf, b_NormalDist_inv_cdf, s_NormalDist_inv_cdf) := rfl
  letI a_NormalDist_quantiles : Arguments := _
  letI b_NormalDist_quantiles : List Stmt := _
  letI s_NormalDist_quantiles : Scope := _
  haveI : fnAt (clAt PySem.Challenge.pw_oz0057_03.main.body 4) 7 = some (a_NormalDist_quantiles, b_NormalDist_quantiles, s_NormalDist_quantiles) := rfl
  letI a_NormalDist_overlap : Arguments := _
  letI b_NormalDist_overlap : List Stmt := _
  letI s_NormalDist_overlap : Scope := _
  haveI : fnAt (clAt PySem.Challenge.pw_oz0057_03.main.body 4) 8 = some (a_NormalDist_overlap, b_NormalDist_overlap, s_NormalDist_overlap) := rfl
  letI a_NormalDist_zscore : Arguments := _
  letI b_NormalDist_zscore : List Stmt := _
  letI s_NormalDist_zscore : Scope := _
  haveI : fnAt (clAt PySem.Challenge.pw_oz0057_03.main.body 4) 9 = some (a_NormalDist_zscore, b_NormalDist_zscore, s_NormalDist_zscore) := rfl
  letI a_NormalDist_mean : Arguments := _
  letI b_NormalDist_mean : List Stmt := _
  letI s_NormalDist_mean : Scope := _
  haveI : fnAt (clAt PySem.Challenge.pw_oz0057_03.main.body 4) 10 = some (a_NormalDist_mean, b_NormalDist_mean, s_NormalDist_mean) := rfl
  letI a_NormalDist_median : Arguments := _
  letI b_NormalDist_median : List Stmt := _
  letI s_NormalDist_median : Scope := _
  haveI : fnAt (clAt PySem.Challenge.pw_oz0057_03.main.body 4) 11 = some (a_NormalDist_median, b_NormalDist_median, s_NormalDist_median) := rfl
  letI a_NormalDist_mode : Arguments := _
  letI b_NormalDist_mode : List Stmt := _
  letI s_NormalDist_mode : Scope := _
  haveI : fnAt (clAt PySem.Challenge.pw_oz0057_03.main.body 4) 12 = some (a_NormalDist_mode, b_NormalDist_mode, s_NormalDist_mode) := rfl
  letI a_NormalDist_stdev : Arguments := _
  letI b_NormalDist_stdev : List Stmt := _
  letI s_NormalDist_stdev : Scope := _
  haveI : fnAt (clAt PySem.Challenge.pw_oz0057_03.main.body 4) 13 = some (a_NormalDist_stdev, b_NormalDist_stdev, s_NormalDist_stdev) := rfl
  letI a_NormalDist_variance : Arguments := _
  letI b_NormalDist_variance : List Stmt := _
  letI s_NormalDist_variance : Scope := _
  haveI : fnAt (clAt PySem.Challenge.pw_oz0057_03.main.body 4) 14 = some (a_NormalDist_variance, b_NormalDist_variance, s_NormalDist_variance) := rfl
  letI a_NormalDist___add__ : Arguments := _
  letI b_NormalDist___add__ : List Stmt := _
  letI s_NormalDist___add__ : Scope := _
  haveI : fnAt (clAt PySem.Challenge.pw_oz0057_03.main.body 4) 15 = some (a_NormalDist___add__, b_NormalDist___add__, s_NormalDist___add__) := rfl
  letI a_NormalDist___sub__ : Arguments := _
  letI b_NormalDist___sub__ : List Stmt := _
  letI s_NormalDist___sub__ : Scope := _
  haveI : fnAt (clAt PySem.Challenge.pw_oz0057_03.main.body 4) 16 = some (a_NormalDist___sub__, b_NormalDist___sub__, s_NormalDist___sub__) := rfl
  letI a_NormalDist___mul__ : Arguments := _
  letI b_NormalDist___mul__ : List Stmt := _
  letI s_NormalDist___mul__ : Scope := _
  haveI : fnAt (clAt PySem.Challenge.pw_oz0057_03.main.body 4) 17 = some (a_NormalDist___mul__, b_NormalDist___mul__, s_NormalDist___mul__) := rfl
  letI a_NormalDist___truediv__ : Arguments := _
  letI b_NormalDist___truediv__ : List Stmt := _
  letI s_NormalDist___truediv__ : Scope := _
  haveI : fnAt (clAt PySem.Challenge.pw_oz0057_03.main.body 4) 18 = some (a_NormalDist___truediv__, b_NormalDist___truediv__, s_NormalDist___truediv__) := rfl
  letI a_NormalDist___pos__ : Arguments := _
  letI b_NormalDist___pos__ : List Stmt := _
  letI s_NormalDist___pos__ : Scope := _
  haveI : fnAt (clAt PySem.Challenge.pw_oz0057_03.main.body 4) 19 = some (a_NormalDist___pos__, b_NormalDist___pos__, s_NormalDist___pos__) := rfl
  letI a_NormalDist___neg__ : Arguments := _
  letI b_NormalDist___neg__ : List Stmt := _
  letI s_NormalDist___neg__ : Scope := _
  haveI : fnAt (clAt PySem.Challenge.pw_oz0057_03.main.body 4) 20 = some (a_NormalDist___neg__, b_NormalDist___neg__, s_NormalDist___neg__) := rfl
  letI a_NormalDist___rsub__ : Arguments := _
  letI b_NormalDist___rsub__ : List Stmt := _
  letI s_NormalDist___rsub__ : Scope := _
  haveI : fnAt (clAt PySem.Challenge.pw_oz0057_03.main.body 4) 22 = some (a_NormalDist___rsub__, b_NormalDist___rsub__, s_NormalDist___rsub__) := rfl
  letI a_NormalDist___eq__ : Arguments := _
  letI b_NormalDist___eq__ : List Stmt := _
  letI s_NormalDist___eq__ : Scope := _
  haveI : fnAt (clAt PySem.Challenge.pw_oz0057_03.main.body 4) 24 = some (a_NormalDist___eq__, b_NormalDist___eq__, s_NormalDist___eq__) := rfl
  letI a_NormalDist___hash__ : Arguments := _
  letI b_NormalDist___hash__ : List Stmt := _
  letI s_NormalDist___hash__ : Scope := _
  haveI : fnAt (clAt PySem.Challenge.pw_oz0057_03.main.body 4) 25 = some (a_NormalDist___hash__, b_NormalDist___hash__, s_NormalDist___hash__) := rfl
  letI a_NormalDist___repr__ : Arguments := _
  letI b_NormalDist___repr__ : List Stmt := _
  letI s_NormalDist___repr__ : Scope := _
  haveI : fnAt (clAt PySem.Challenge.pw_oz0057_03.main.body 4) 26 = some (a_NormalDist___repr__, b_NormalDist___repr__, s_NormalDist___repr__) := rfl
  letI a_NormalDist___getstate__ : Arguments := _
  letI b_NormalDist___getstate__ : List Stmt := _
  letI s_NormalDist___getstate__ : Scope := _
  haveI : fnAt (clAt PySem.Challenge.pw_oz0057_03.main.body 4) 27 = some (a_NormalDist___getstate__, b_NormalDist___getstate__, s_NormalDist___getstate__) := rfl
  letI a_NormalDist___setstate__ : Arguments := _
  letI b_NormalDist___setstate__ : List Stmt := _
  letI s_NormalDist___setstate__ : Scope := _
  haveI : fnAt (clAt PySem.Challenge.pw_oz0057_03.main.body 4) 28 = some (a_NormalDist___setstate__, b_NormalDist___setstate__, s_NormalDist___setstate__) := rfl
  letI a__law_near : Arguments := _
  letI b__law_near : List Stmt := _
  letI s__law_near : Scope := _
  haveI : fnAt PySem.Challenge.pw_oz0057_03.main.body 6 = some (a__law_near, b__law_near, s__law_near) := rfl
  letI a_law : Arguments := _
  letI b_law : List Stmt := _
  letI s_law : Scope := _
  haveI : fnAt PySem.Challenge.pw_oz0057_03.main.body 7 = some (a_law, b_law, s_law) := rfl
((nat_lit 2),⟨.none,none,(.dict (List.toArray [⟨(PySem.PyData.keyHash P (Str.ofString "\x69mport.loaded.math")),(.str (Str.ofString "\x69mport.loaded.math") 186),(.bool true)⟩,⟨(PySem.PyData.keyHash P (Str.ofString "class._frozen_\x69mportlib_external._LoaderBasics")),(.str (Str.ofString "class._frozen_\x69mportlib_external._LoaderBasics") 191),(.ref 16)⟩,⟨(PySem.PyData.keyHash P (Str.ofString "watched.\x69mport")),(.str (Str.ofString "watched.\x69mport") 207),(.ref 20)⟩,⟨(PySem.PyData.keyHash P (Str.ofString "class._frozen_\x69mportlib_external.FileLoader")),(.str (Str.ofString "class._frozen_\x69mportlib_external.FileLoader") 208),(.ref 22)⟩,⟨(PySem.PyData.keyHash P (Str.ofString "class._frozen_\x69mportlib_external.ExtensionFileLoader")),(.str (Str.ofString "class._frozen_\x69mportlib_external.ExtensionFileLoader") 229),(.ref 27)⟩,⟨(PySem.PyData.keyHash P (Str.ofString "class._frozen_\x69mportlib.ModuleSpec")),(.str (Str.ofString "class._frozen_\x69mportlib.ModuleSpec") 257),(.ref 33)⟩,⟨(PySem.PyData.keyHash P (Str.ofString "sys.modules.booked-epoch")),(.str (Str.ofString "sys.modules.booked-epoch") 286),(.int (@OfNat.ofNat Int (nat_lit 3) (@instOfNat (nat_lit 3))) 0)⟩,⟨(PySem.PyData.keyHash P (Str.ofString "\x69mport.later-laid.math")),(.str (Str.ofString "\x69mport.later-laid.math") 362),(.bool true)⟩,⟨(PySem.PyData.keyHash P (Str.ofString "watched.library")),(.str (Str.ofString "watched.library") 364),(.ref 38)⟩,⟨(PySem.PyData.keyHash P (Str.ofString "watched.library-objects")),(.str (Str.ofString "watched.library-objects") 0),(.str (Str.ofString "\x0d") 0)⟩]) 10),(List.toArray [])⟩)::
((nat_lit 3),⟨(.type "dict"),none,(.dict (List.toArray [⟨(PySem.PyData.keyHash P (Str.ofString "__name__")),(.str (Str.ofString "__name__") 165),(.str (Str.ofString "law_oz0057_03") 659)⟩,⟨(PySem.PyData.keyHash P (Str.ofString "__doc__")),(.str (Str.ofString "__doc__") 166),.none⟩,⟨(PySem.PyData.keyHash P (Str.ofString "__package__")),(.str (Str.ofString "__package__") 167),.none⟩,⟨(PySem.PyData.keyHash P (Str.ofString "__loader__")),(.str (Str.ofString "__loader__") 168),(.builtin "__main__.__loader__#opaque")⟩,⟨(PySem.PyData.keyHash P (Str.ofString "__spec__")),(.str (Str.ofString "__spec__") 169),.none⟩,⟨(PySem.PyData.keyHash P (Str.ofString "__annotations__")),(.str (Str.ofString "__annotations__") 170),(.ref 6)⟩,⟨(PySem.PyData.keyHash P (Str.ofString "__builtins__")),(.str (Str.ofString "__builtins__") 171),(.ref 4)⟩,⟨(PySem.PyData.keyHash P (Str.ofString "__file__")),(.str (Str.ofString "__file__") 173),(.str (Str.ofString "/claim/cut.py") 172)⟩,⟨(PySem.PyData.keyHash P (Str.ofString "__cached__")),(.str (Str.ofString "__cached__") 174),.none⟩,⟨(PySem.PyData.keyHash P (Str.ofString "fabs")),(.str (Str.ofString "fabs") 370),(.builtin "math.fabs")⟩,⟨(PySem.PyData.keyHash P (Str.ofString "hypot")),(.str (Str.ofString "hypot") 373),(.builtin "math.hypot")⟩,⟨(PySem.PyData.keyHash P (Str.ofString "_wall")),(.str (Str.ofString "_wall") 386),(.ref 49)⟩,⟨(PySem.PyData.keyHash P (Str.ofString "StatisticsError")),(.str (Str.ofString "StatisticsError") 406),(.ref 59)⟩,⟨(PySem.PyData.keyHash P (Str.ofString "NormalDist")),(.str (Str.ofString "NormalDist") 658),(.ref 270)⟩,⟨(PySem.PyData.keyHash P (Str.ofString "_law_near")),(.str (Str.ofString "_law_near") 668),(.ref 281)⟩,⟨(PySem.PyData.keyHash P (Str.ofString "law")),(.str (Str.ofString "law") 674),(.ref 286)⟩]) 16),(List.toArray [])⟩)::
((nat_lit 43),⟨(.type "tuple"),none,(.seq (List.toArray []) 0),(List.toArray [])⟩)::
((nat_lit 45),⟨(.type "tuple"),none,(.seq (List.toArray [(.str (Str.ofString "k") 383)]) 0),(List.toArray [])⟩)::
((nat_lit 46),⟨(.type "tuple"),none,(.seq (List.toArray []) 0),(List.toArray [])⟩)::
((nat_lit 48),⟨(.type "code"),none,(.fields (List.toArray [(.str (Str.ofString "_wall") 380),(.str (Str.ofString "_wall") 381),(.str (Str.ofString "/claim/cut.py") 382),(.int (@OfNat.ofNat Int (nat_lit 2) (@instOfNat (nat_lit 2))) 0),(.int (@OfNat.ofNat Int (nat_lit 1) (@instOfNat (nat_lit 1))) 0),(.int (@OfNat.ofNat Int (nat_lit 0) (@instOfNat (nat_lit 0))) 0),(.int (@OfNat.ofNat Int (nat_lit 0) (@instOfNat (nat_lit 0))) 0),(.int (@OfNat.ofNat Int (nat_lit 3) (@instOfNat (nat_lit 3))) 0),(.ref 43),(.bool true),(.int (@OfNat.ofNat Int (nat_lit 374) (@instOfNat (nat_lit 374))) 0),(.ref 44),.none,(.ref 45),(.ref 46),(.ref 47),(.int (@OfNat.ofNat Int (nat_lit 384) (@instOfNat (nat_lit 384))) 0),(.int (@OfNat.ofNat Int (nat_lit 2) (@instOfNat (nat_lit 2))) 0),(.str (Str.ofString "/claim/cut.py") 385)])),(List.toArray [])⟩)::
((nat_lit 49),⟨(.type "function"),none,(.func ⟨(Str.ofString "_wall"),(Str.ofString "_wall"),a__wall,(.stmts b__wall),s__wall,3,[],.none,.none,.none,(.str (Str.ofString "__main__") 164),none,(.ref 48),.none,0⟩),(List.toArray [])⟩)::
((nat_lit 50),⟨(.type "tuple"),none,(.seq (List.toArray [(.type "ValueError")]) 0),(List.toArray [])⟩)::
((nat_lit 57),⟨(.type "tuple"),none,(.seq (List.toArray []) 0),(List.toArray [])⟩)::
((nat_lit 58),⟨(.type "dict"),none,(.dict (List.toArray [⟨(PySem.PyData.keyHash P (Str.ofString "__module__")),(.str (Str.ofString "__module__") 396),(.str (Str.ofString "cpy313.statistics") 387)⟩,⟨(PySem.PyData.keyHash P (Str.ofString "__firstlineno__")),(.str (Str.ofString "__firstlineno__") 400),(.int (@OfNat.ofNat Int (nat_lit 6) (@instOfNat (nat_lit 6))) 399)⟩,⟨(PySem.PyData.keyHash P (Str.ofString "__static_attributes__")),(.str (Str.ofString "__static_attributes__") 401),(.ref 57)⟩,⟨(PySem.PyData.keyHash P (Str.ofString "__weakref__")),(.str (Str.ofString "__weakref__") 403),(.ref 60)⟩,⟨(PySem.PyData.keyHash P (Str.ofString "__doc__")),(.str (Str.ofString "__doc__") 404),.none⟩]) 3),(List.toArray [])⟩)::
((nat_lit 59),⟨(.type "type"),none,(.cls ⟨(Str.ofString "StatisticsError"),[(.type "ValueError")],[(.ref 59),(.type "ValueError"),(.type "Exception"),(.type "BaseException"),(.type "object")],58,(Str.ofString "StatisticsError"),true,[],[],false,none,false⟩),(List.toArray [(some (.ref 50)),none,(some (.str (Str.ofString "StatisticsError") 389)),(some (.str (Str.ofString "StatisticsError") 397)),(some (.builtin "ValueError.__new__")),(some (.bool true))])⟩)::
((nat_lit 60),⟨(.type "getset_descriptor"),none,(.fields (List.toArray [(.str (Str.ofString "__weakref__") 402),(.ref 59),(.builtin "ExceptionGroup.__weakref__"),.none])),(List.toArray [])⟩)::
((nat_lit 70),⟨(.type "dict"),none,(.dict (List.toArray [⟨(PySem.PyData.keyHash P (Str.ofString "_mu")),(.str (Str.ofString "_mu") 419),(.str (Str.ofString "Arithmetic mean of a normal distribution") 420)⟩,⟨(PySem.PyData.keyHash P (Str.ofString "_sigma")),(.str (Str.ofString "_sigma") 421),(.str (Str.ofString "Standard deviation of a normal distribution") 422)⟩]) 2),(List.toArray [])⟩)::
((nat_lit 71),⟨(.type "tuple"),none,(.seq (List.toArray [(.float (@OfNat.ofNat UInt64 (nat_lit 0) (@UInt64.instOfNat (nat_lit 0))) 426),(.float (@OfNat.ofNat UInt64 (nat_lit 4607182418800017408) (@UInt64.instOfNat (nat_lit 4607182418800017408))) 427)]) 0),(List.toArray [])⟩)::
((nat_lit 72),⟨(.type "tuple"),none,(.seq (List.toArray []) 0),(List.toArray [])⟩)::
((nat_lit 74),⟨(.type "tuple"),none,(.seq (List.toArray [(.str (Str.ofString "self") 431),(.str (Str.ofString "mu") 432),(.str (Str.ofString "sigma") 433)]) 0),(List.toArray [])⟩)::
((nat_lit 75),⟨(.type "tuple"),none,(.seq (List.toArray []) 0),(List.toArray [])⟩)::
((nat_lit 77),⟨(.type "code"),none,(.fields (List.toArray [(.str (Str.ofString "__init__") 428),(.str (Str.ofString "NormalDist.__init__") 429),(.str (Str.ofString "/claim/cut.py") 430),(.int (@OfNat.ofNat Int (nat_lit 11) (@instOfNat (nat_lit 11))) 0),(.int (@OfNat.ofNat Int (nat_lit 3) (@instOfNat (nat_lit 3))) 0),(.int (@OfNat.ofNat Int (nat_lit 0) (@instOfNat (nat_lit 0))) 0),(.int (@OfNat.ofNat Int (nat_lit 0) (@instOfNat (nat_lit 0))) 0),(.int (@OfNat.ofNat Int (nat_lit 3) (@instOfNat (nat_lit 3))) 0),(.ref 72),(.bool true),(.int (@OfNat.ofNat Int (nat_lit 374) (@instOfNat (nat_lit 374))) 0),(.ref 73),.none,(.ref 74),(.ref 75),(.ref 76),(.int (@OfNat.ofNat Int (nat_lit 434) (@instOfNat (nat_lit 434))) 0),(.int (@OfNat.ofNat Int (nat_lit 11) (@instOfNat (nat_lit 11))) 0),(.str (Str.ofString "/claim/cut.py") 435)])),(List.toArray [])⟩)::
((nat_lit 78),⟨(.type "function"),none,(.func ⟨(Str.ofString "__init__"),(Str.ofString "NormalDist.__init__"),a_NormalDist___init__,(.stmts b_NormalDist___init__),s_NormalDist___init__,3,[],(.ref 71),.none,.none,(.str (Str.ofString "cpy313.statistics") 387),none,(.ref 77),.none,0⟩),(List.toArray [])⟩)::
((nat_lit 79),⟨(.type "tuple"),none,(.seq (List.toArray []) 0),(List.toArray [])⟩)::
((nat_lit 81),⟨(.type "tuple"),none,(.seq (List.toArray [(.str (Str.ofString "cls") 440),(.str (Str.ofString "data") 441)]) 0),(List.toArray [])⟩)::
((nat_lit 82),⟨(.type "tuple"),none,(.seq (List.toArray []) 0),(List.toArray [])⟩)::
((nat_lit 84),⟨(.type "code"),none,(.fields (List.toArray [(.str (Str.ofString "from_samples") 437),(.str (Str.ofString "NormalDist.from_samples") 438),(.str (Str.ofString "/claim/cut.py") 439),(.int (@OfNat.ofNat Int (nat_lit 17) (@instOfNat (nat_lit 17))) 0),(.int (@OfNat.ofNat Int (nat_lit 2) (@instOfNat (nat_lit 2))) 0),(.int (@OfNat.ofNat Int (nat_lit 0) (@instOfNat (nat_lit 0))) 0),(.int (@OfNat.ofNat Int (nat_lit 0) (@instOfNat (nat_lit 0))) 0),(.int (@OfNat.ofNat Int (nat_lit 3) (@instOfNat (nat_lit 3))) 0),(.ref 79),(.bool true),(.int (@OfNat.ofNat Int (nat_lit 374) (@instOfNat (nat_lit 374))) 0),(.ref 80),.none,(.ref 81),(.ref 82),(.ref 83),(.int (@OfNat.ofNat Int (nat_lit 442) (@instOfNat (nat_lit 442))) 0),(.int (@OfNat.ofNat Int (nat_lit 17) (@instOfNat (nat_lit 17))) 0),(.str (Str.ofString "/claim/cut.py") 443)])),(List.toArray [])⟩)::
((nat_lit 85),⟨(.type "function"),none,(.func ⟨(Str.ofString "from_samples"),(Str.ofString "NormalDist.from_samples"),a_NormalDist_from_samples,(.stmts b_NormalDist_from_samples),s_NormalDist_from_samples,3,[],.none,.none,.none,(.str (Str.ofString "cpy313.statistics") 387),(some 88),(.ref 84),.none,0⟩),(List.toArray [])⟩)::
((nat_lit 86),⟨(.type "dict"),none,(.dict (List.toArray [⟨(PySem.PyData.keyHash P (Str.ofString "__module__")),(.str (Str.ofString "__module__") 445),(.str (Str.ofString "cpy313.statistics") 387)⟩,⟨(PySem.PyData.keyHash P (Str.ofString "__name__")),(.str (Str.ofString "__name__") 448),(.str (Str.ofString "from_samples") 447)⟩,⟨(PySem.PyData.keyHash P (Str.ofString "__qualname__")),(.str (Str.ofString "__qualname__") 451),(.str (Str.ofString "NormalDist.from_samples") 450)⟩,⟨(PySem.PyData.keyHash P (Str.ofString "__doc__")),(.str (Str.ofString "__doc__") 453),.none⟩,⟨(PySem.PyData.keyHash P (Str.ofString "__annotations__")),(.str (Str.ofString "__annotations__") 455),(.ref 88)⟩]) 5),(List.toArray [])⟩)::
((nat_lit 87),⟨(.type "classmethod"),(some 86),(.fields (List.toArray [(.ref 85),(.bool false)])),(List.toArray [])⟩)::
((nat_lit 88),⟨(.type "dict"),none,(.dict (List.toArray []) 0),(List.toArray [])⟩)::
((nat_lit 89),⟨(.type "dict"),none,(.dict (List.toArray [⟨(PySem.PyData.keyHash P (Str.ofString "seed")),(.str (Str.ofString "seed") 457),.none⟩]) 1),(List.toArray [])⟩)::
((nat_lit 90),⟨(.type "tuple"),none,(.seq (List.toArray []) 0),(List.toArray [])⟩)::
((nat_lit 92),⟨(.type "tuple"),none,(.seq (List.toArray [(.str (Str.ofString "self") 461),(.str (Str.ofString "n") 462),(.str (Str.ofString "seed") 463)]) 0),(List.toArray [])⟩)::
((nat_lit 93),⟨(.type "tuple"),none,(.seq (List.toArray []) 0),(List.toArray [])⟩)::
((nat_lit 95),⟨(.type "code"),none,(.fields (List.toArray [(.str (Str.ofString "samples") 458),(.str (Str.ofString "NormalDist.samples") 459),(.str (Str.ofString "/claim/cut.py") 460),(.int (@OfNat.ofNat Int (nat_lit 21) (@instOfNat (nat_lit 21))) 0),(.int (@OfNat.ofNat Int (nat_lit 2) (@instOfNat (nat_lit 2))) 0),(.int (@OfNat.ofNat Int (nat_lit 0) (@instOfNat (nat_lit 0))) 0),(.int (@OfNat.ofNat Int (nat_lit 1) (@instOfNat (nat_lit 1))) 0),(.int (@OfNat.ofNat Int (nat_lit 3) (@instOfNat (nat_lit 3))) 0),(.ref 90),(.bool true),(.int (@OfNat.ofNat Int (nat_lit 374) (@instOfNat (nat_lit 374))) 0),(.ref 91),.none,(.ref 92),(.ref 93),(.ref 94),(.int (@OfNat.ofNat Int (nat_lit 464) (@instOfNat (nat_lit 464))) 0),(.int (@OfNat.ofNat Int (nat_lit 21) (@instOfNat (nat_lit 21))) 0),(.str (Str.ofString "/claim/cut.py") 465)])),(List.toArray [])⟩)::
((nat_lit 96),⟨(.type "function"),none,(.func ⟨(Str.ofString "samples"),(Str.ofString "NormalDist.samples"),a_NormalDist_samples,(.stmts b_NormalDist_samples),s_NormalDist_samples,3,[],.none,(.ref 89),.none,(.str (Str.ofString "cpy313.statistics") 387),none,(.ref 95),.none,0⟩),(List.toArray [])⟩)::
((nat_lit 97),⟨(.type "tuple"),none,(.seq (List.toArray []) 0),(List.toArray [])⟩)::
((nat_lit 99),⟨(.type "tuple"),none,(.seq (List.toArray [(.str (Str.ofString "self") 470),(.str (Str.ofString "x") 471)]) 0),(List.toArray [])⟩)::
((nat_lit 100),⟨(.type "tuple"),none,(.seq (List.toArray []) 0),(List.toArray [])⟩)::
((nat_lit 102),⟨(.type "code"),none,(.fields (List.toArray [(.str (Str.ofString "pdf") 467),(.str (Str.ofString "NormalDist.pdf") 468),(.str (Str.ofString "/claim/cut.py") 469),(.int (@OfNat.ofNat Int (nat_lit 24) (@instOfNat (nat_lit 24))) 0),(.int (@OfNat.ofNat Int (nat_lit 2) (@instOfNat (nat_lit 2))) 0),(.int (@OfNat.ofNat Int (nat_lit 0) (@instOfNat (nat_lit 0))) 0),(.int (@OfNat.ofNat Int (nat_lit 0) (@instOfNat (nat_lit 0))) 0),(.int (@OfNat.ofNat Int (nat_lit 3) (@instOfNat (nat_lit 3))) 0),(.ref 97),(.bool true),(.int (@OfNat.ofNat Int (nat_lit 374) (@instOfNat (nat_lit 374))) 0),(.ref 98),.none,(.ref 99),(.ref 100),(.ref 101),(.int (@OfNat.ofNat Int (nat_lit 472) (@instOfNat (nat_lit 472))) 0),(.int (@OfNat.ofNat Int (nat_lit 24) (@instOfNat (nat_lit 24))) 0),(.str (Str.ofString "/claim/cut.py") 473)])),(List.toArray [])⟩)::
((nat_lit 103),⟨(.type "function"),none,(.func ⟨(Str.ofString "pdf"),(Str.ofString "NormalDist.pdf"),a_NormalDist_pdf,(.stmts b_NormalDist_pdf),s_NormalDist_pdf,3,[],.none,.none,.none,(.str (Str.ofString "cpy313.statistics") 387),none,(.ref 102),.none,0⟩),(List.toArray [])⟩)::
((nat_lit 104),⟨(.type "tuple"),none,(.seq (List.toArray []) 0),(List.toArray [])⟩)::
((nat_lit 106),⟨(.type "tuple"),none,(.seq (List.toArray [(.str (Str.ofString "self") 478),(.str (Str.ofString "x") 479)]) 0),(List.toArray [])⟩)::
((nat_lit 107),⟨(.type "tuple"),none,(.seq (List.toArray []) 0),(List.toArray [])⟩)::
((nat_lit 109),⟨(.type "code"),none,(.fields (List.toArray [(.str (Str.ofString "cdf") 475),(.str (Str.ofString "NormalDist.cdf") 476),(.str (Str.ofString "/claim/cut.py") 477),(.int (@OfNat.ofNat Int (nat_lit 27) (@instOfNat (nat_lit 27))) 0),(.int (@OfNat.ofNat Int (nat_lit 2) (@instOfNat (nat_lit 2))) 0),(.int (@OfNat.ofNat Int (nat_lit 0) (@instOfNat (nat_lit 0))) 0),(.int (@OfNat.ofNat Int (nat_lit 0) (@instOfNat (nat_lit 0))) 0),(.int (@OfNat.ofNat Int (nat_lit 3) (@instOfNat (nat_lit 3))) 0),(.ref 104),(.bool true),(.int (@OfNat.ofNat Int (nat_lit 374) (@instOfNat (nat_lit 374))) 0),(.ref 105),.none,(.ref 106),(.ref 107),(.ref 108),(.int (@OfNat.ofNat Int (nat_lit 480) (@instOfNat (nat_lit 480))) 0),(.int (@OfNat.ofNat Int (nat_lit 27) (@instOfNat (nat_lit 27))) 0),(.str (Str.ofString "/claim/cut.py") 481)])),(List.toArray [])⟩)::
((nat_lit 110),⟨(.type "function"),none,(.func ⟨(Str.ofString "cdf"),(Str.ofString "NormalDist.cdf"),a_NormalDist_cdf,(.stmts b_NormalDist_cdf),s_NormalDist_cdf,3,[],.none,.none,.none,(.str (Str.ofString "cpy313.statistics") 387),none,(.ref 109),.none,0⟩),(List.toArray [])⟩)::
((nat_lit 111),⟨(.type "tuple"),none,(.seq (List.toArray []) 0),(List.toArray [])⟩)::
((nat_lit 113),⟨(.type "tuple"),none,(.seq (List.toArray [(.str (Str.ofString "self") 486),(.str (Str.ofString "p") 487)]) 0),(List.toArray [])⟩)::
((nat_lit 114),⟨(.type "tuple"),none,(.seq (List.toArray []) 0),(List.toArray [])⟩)::
((nat_lit 116),⟨(.type "code"),none,(.fields (List.toArray [(.str (Str.ofString "inv_cdf") 483),(.str (Str.ofString "NormalDist.inv_cdf") 484),(.str (Str.ofString "/claim/cut.py") 485),(.int (@OfNat.ofNat Int (nat_lit 30) (@instOfNat (nat_lit 30))) 0),(.int (@OfNat.ofNat Int (nat_lit 2) (@instOfNat (nat_lit 2))) 0),(.int (@OfNat.ofNat Int (nat_lit 0) (@instOfNat (nat_lit 0))) 0),(.int (@OfNat.ofNat Int (nat_lit 0) (@instOfNat (nat_lit 0))) 0),(.int (@OfNat.ofNat Int (nat_lit 3) (@instOfNat (nat_lit 3))) 0),(.ref 111),(.bool true),(.int (@OfNat.ofNat Int (nat_lit 374) (@instOfNat (nat_lit 374))) 0),(.ref 112),.none,(.ref 113),(.ref 114),(.ref 115),(.int (@OfNat.ofNat Int (nat_lit 488) (@instOfNat (nat_lit 488))) 0),(.int (@OfNat.ofNat Int (nat_lit 30) (@instOfNat (nat_lit 30))) 0),(.str (Str.ofString "/claim/cut.py") 489)])),(List.toArray [])⟩)::
((nat_lit 117),⟨(.type "function"),none,(.func ⟨(Str.ofString "inv_cdf"),(Str.ofString "NormalDist.inv_cdf"),a_NormalDist_inv_cdf,(.stmts b_NormalDist_inv_cdf),s_NormalDist_inv_cdf,3,[],.none,.none,.none,(.str (Str.ofString "cpy313.statistics") 387),none,(.ref 116),.none,0⟩),(List.toArray [])⟩)::
((nat_lit 118),⟨(.type "tuple"),none,(.seq (List.toArray [(.int (@OfNat.ofNat Int (nat_lit 4) (@instOfNat (nat_lit 4))) 491)]) 0),(List.toArray [])⟩)::
((nat_lit 119),⟨(.type "tuple"),none,(.seq (List.toArray []) 0),(List.toArray [])⟩)::
((nat_lit 121),⟨(.type "tuple"),none,(.seq (List.toArray [(.str (Str.ofString "self") 495),(.str (Str.ofString "n") 496)]) 0),(List.toArray [])⟩)::
((nat_lit 122),⟨(.type "tuple"),none,(.seq (List.toArray []) 0),(List.toArray [])⟩)::
((nat_lit 124),⟨(.type "code"),none,(.fields (List.toArray [(.str (Str.ofString "quantiles") 492),(.str (Str.ofString "NormalDist.quantiles") 493),(.str (Str.ofString "/claim/cut.py") 494),(.int (@OfNat.ofNat Int (nat_lit 33) (@instOfNat (nat_lit 33))) 0),(.int (@OfNat.ofNat Int (nat_lit 2) (@instOfNat (nat_lit 2))) 0),(.int (@OfNat.ofNat Int (nat_lit 0) (@instOfNat (nat_lit 0))) 0),(.int (@OfNat.ofNat Int (nat_lit 0) (@instOfNat (nat_lit 0))) 0),(.int (@OfNat.ofNat Int (nat_lit 3) (@instOfNat (nat_lit 3))) 0),(.ref 119),(.bool true),(.int (@OfNat.ofNat Int (nat_lit 374) (@instOfNat (nat_lit 374))) 0),(.ref 120),.none,(.ref 121),(.ref 122),(.ref 123),(.int (@OfNat.ofNat Int (nat_lit 497) (@instOfNat (nat_lit 497))) 0),(.int (@OfNat.ofNat Int (nat_lit 33) (@instOfNat (nat_lit 33))) 0),(.str (Str.ofString "/claim/cut.py") 498)])),(List.toArray [])⟩)::
((nat_lit 125),⟨(.type "function"),none,(.func ⟨(Str.ofString "quantiles"),(Str.ofString "NormalDist.quantiles"),a_NormalDist_quantiles,(.stmts b_NormalDist_quantiles),s_NormalDist_quantiles,3,[],(.ref 118),.none,.none,(.str (Str.ofString "cpy313.statistics") 387),none,(.ref 124),.none,0⟩),(List.toArray [])⟩)::
((nat_lit 126),⟨(.type "tuple"),none,(.seq (List.toArray []) 0),(List.toArray [])⟩)::
((nat_lit 128),⟨(.type "tuple"),none,(.seq (List.toArray [(.str (Str.ofString "self") 503),(.str (Str.ofString "other") 504)]) 0),(List.toArray [])⟩)::
((nat_lit 129),⟨(.type "tuple"),none,(.seq (List.toArray []) 0),(List.toArray [])⟩)::
((nat_lit 131),⟨(.type "code"),none,(.fields (List.toArray [(.str (Str.ofString "overlap") 500),(.str (Str.ofString "NormalDist.overlap") 501),(.str (Str.ofString "/claim/cut.py") 502),(.int (@OfNat.ofNat Int (nat_lit 36) (@instOfNat (nat_lit 36))) 0),(.int (@OfNat.ofNat Int (nat_lit 2) (@instOfNat (nat_lit 2))) 0),(.int (@OfNat.ofNat Int (nat_lit 0) (@instOfNat (nat_lit 0))) 0),(.int (@OfNat.ofNat Int (nat_lit 0) (@instOfNat (nat_lit 0))) 0),(.int (@OfNat.ofNat Int (nat_lit 3) (@instOfNat (nat_lit 3))) 0),(.ref 126),(.bool true),(.int (@OfNat.ofNat Int (nat_lit 374) (@instOfNat (nat_lit 374))) 0),(.ref 127),.none,(.ref 128),(.ref 129),(.ref 130),(.int (@OfNat.ofNat Int (nat_lit 505) (@instOfNat (nat_lit 505))) 0),(.int (@OfNat.ofNat Int (nat_lit 36) (@instOfNat (nat_lit 36))) 0),(.str (Str.ofString "/claim/cut.py") 506)])),(List.toArray [])⟩)::
((nat_lit 132),⟨(.type "function"),none,(.func ⟨(Str.ofString "overlap"),(Str.ofString "NormalDist.overlap"),a_NormalDist_overlap,(.stmts b_NormalDist_overlap),s_NormalDist_overlap,3,[],.none,.none,.none,(.str (Str.ofString "cpy313.statistics") 387),none,(.ref 131),.none,0⟩),(List.toArray [])⟩)::
((nat_lit 133),⟨(.type "tuple"),none,(.seq (List.toArray []) 0),(List.toArray [])⟩)::
((nat_lit 135),⟨(.type "tuple"),none,(.seq (List.toArray [(.str (Str.ofString "self") 511),(.str (Str.ofString "x") 512)]) 0),(List.toArray [])⟩)::
((nat_lit 136),⟨(.type "tuple"),none,(.seq (List.toArray []) 0),(List.toArray [])⟩)::
((nat_lit 138),⟨(.type "code"),none,(.fields (List.toArray [(.str (Str.ofString "zscore") 508),(.str (Str.ofString "NormalDist.zscore") 509),(.str (Str.ofString "/claim/cut.py") 510),(.int (@OfNat.ofNat Int (nat_lit 39) (@instOfNat (nat_lit 39))) 0),(.int (@OfNat.ofNat Int (nat_lit 2) (@instOfNat (nat_lit 2))) 0),(.int (@OfNat.ofNat Int (nat_lit 0) (@instOfNat (nat_lit 0))) 0),(.int (@OfNat.ofNat Int (nat_lit 0) (@instOfNat (nat_lit 0))) 0),(.int (@OfNat.ofNat Int (nat_lit 3) (@instOfNat (nat_lit 3))) 0),(.ref 133),(.bool true),(.int (@OfNat.ofNat Int (nat_lit 374) (@instOfNat (nat_lit 374))) 0),(.ref 134),.none,(.ref 135),(.ref 136),(.ref 137),(.int (@OfNat.ofNat Int (nat_lit 513) (@instOfNat (nat_lit 513))) 0),(.int (@OfNat.ofNat Int (nat_lit 39) (@instOfNat (nat_lit 39))) 0),(.str (Str.ofString "/claim/cut.py") 514)])),(List.toArray [])⟩)::
((nat_lit 139),⟨(.type "function"),none,(.func ⟨(Str.ofString "zscore"),(Str.ofString "NormalDist.zscore"),a_NormalDist_zscore,(.stmts b_NormalDist_zscore),s_NormalDist_zscore,3,[],.none,.none,.none,(.str (Str.ofString "cpy313.statistics") 387),none,(.ref 138),.none,0⟩),(List.toArray [])⟩)::
((nat_lit 140),⟨(.type "tuple"),none,(.seq (List.toArray []) 0),(List.toArray [])⟩)::
((nat_lit 142),⟨(.type "tuple"),none,(.seq (List.toArray [(.str (Str.ofString "self") 519)]) 0),(List.toArray [])⟩)::
((nat_lit 143),⟨(.type "tuple"),none,(.seq (List.toArray []) 0),(List.toArray [])⟩)::
((nat_lit 145),⟨(.type "code"),none,(.fields (List.toArray [(.str (Str.ofString "mean") 516),(.str (Str.ofString "NormalDist.mean") 517),(.str (Str.ofString "/claim/cut.py") 518),(.int (@OfNat.ofNat Int (nat_lit 42) (@instOfNat (nat_lit 42))) 0),(.int (@OfNat.ofNat Int (nat_lit 1) (@instOfNat (nat_lit 1))) 0),(.int (@OfNat.ofNat Int (nat_lit 0) (@instOfNat (nat_lit 0))) 0),(.int (@OfNat.ofNat Int (nat_lit 0) (@instOfNat (nat_lit 0))) 0),(.int (@OfNat.ofNat Int (nat_lit 3) (@instOfNat (nat_lit 3))) 0),(.ref 140),(.bool true),(.int (@OfNat.ofNat Int (nat_lit 374) (@instOfNat (nat_lit 374))) 0),(.ref 141),.none,(.ref 142),(.ref 143),(.ref 144),(.int (@OfNat.ofNat Int (nat_lit 520) (@instOfNat (nat_lit 520))) 0),(.int (@OfNat.ofNat Int (nat_lit 42) (@instOfNat (nat_lit 42))) 0),(.str (Str.ofString "/claim/cut.py") 521)])),(List.toArray [])⟩)::
((nat_lit 146),⟨(.type "function"),none,(.func ⟨(Str.ofString "mean"),(Str.ofString "NormalDist.mean"),a_NormalDist_mean,(.stmts b_NormalDist_mean),s_NormalDist_mean,3,[],.none,.none,.none,(.str (Str.ofString "cpy313.statistics") 387),none,(.ref 145),.none,0⟩),(List.toArray [])⟩)::
((nat_lit 147),⟨(.type "property"),none,(.fields (List.toArray [(.ref 146),.none,.none,.none,(.str (Str.ofString "mean") 523),(.bool false)])),(List.toArray [])⟩)::
((nat_lit 148),⟨(.type "tuple"),none,(.seq (List.toArray []) 0),(List.toArray [])⟩)::
((nat_lit 150),⟨(.type "tuple"),none,(.seq (List.toArray [(.str (Str.ofString "self") 527)]) 0),(List.toArray [])⟩)::
((nat_lit 151),⟨(.type "tuple"),none,(.seq (List.toArray []) 0),(List.toArray [])⟩)::
((nat_lit 153),⟨(.type "code"),none,(.fields (List.toArray [(.str (Str.ofString "median") 524),(.str (Str.ofString "NormalDist.median") 525),(.str (Str.ofString "/claim/cut.py") 526),(.int (@OfNat.ofNat Int (nat_lit 46) (@instOfNat (nat_lit 46))) 0),(.int (@OfNat.ofNat Int (nat_lit 1) (@instOfNat (nat_lit 1))) 0),(.int (@OfNat.ofNat Int (nat_lit 0) (@instOfNat (nat_lit 0))) 0),(.int (@OfNat.ofNat Int (nat_lit 0) (@instOfNat (nat_lit 0))) 0),(.int (@OfNat.ofNat Int (nat_lit 3) (@instOfNat (nat_lit 3))) 0),(.ref 148),(.bool true),(.int (@OfNat.ofNat Int (nat_lit 374) (@instOfNat (nat_lit 374))) 0),(.ref 149),.none,(.ref 150),(.ref 151),(.ref 152),(.int (@OfNat.ofNat Int (nat_lit 528) (@instOfNat (nat_lit 528))) 0),(.int (@OfNat.ofNat Int (nat_lit 46) (@instOfNat (nat_lit 46))) 0),(.str (Str.ofString "/claim/cut.py") 529)])),(List.toArray [])⟩)::
((nat_lit 154),⟨(.type "function"),none,(.func ⟨(Str.ofString "median"),(Str.ofString "NormalDist.median"),a_NormalDist_median,(.stmts b_NormalDist_median),s_NormalDist_median,3,[],.none,.none,.none,(.str (Str.ofString "cpy313.statistics") 387),none,(.ref 153),.none,0⟩),(List.toArray [])⟩)::
((nat_lit 155),⟨(.type "property"),none,(.fields (List.toArray [(.ref 154),.none,.none,.none,(.str (Str.ofString "median") 531),(.bool false)])),(List.toArray [])⟩)::
((nat_lit 156),⟨(.type "tuple"),none,(.seq (List.toArray []) 0),(List.toArray [])⟩)::
((nat_lit 158),⟨(.type "tuple"),none,(.seq (List.toArray [(.str (Str.ofString "self") 535)]) 0),(List.toArray [])⟩)::
((nat_lit 159),⟨(.type "tuple"),none,(.seq (List.toArray []) 0),(List.toArray [])⟩)::
((nat_lit 161),⟨(.type "code"),none,(.fields (List.toArray [(.str (Str.ofString "mode") 532),(.str (Str.ofString "NormalDist.mode") 533),(.str (Str.ofString "/claim/cut.py") 534),(.int (@OfNat.ofNat Int (nat_lit 50) (@instOfNat (nat_lit 50))) 0),(.int (@OfNat.ofNat Int (nat_lit 1) (@instOfNat (nat_lit 1))) 0),(.int (@OfNat.ofNat Int (nat_lit 0) (@instOfNat (nat_lit 0))) 0),(.int (@OfNat.ofNat Int (nat_lit 0) (@instOfNat (nat_lit 0))) 0),(.int (@OfNat.ofNat Int (nat_lit 3) (@instOfNat (nat_lit 3))) 0),(.ref 156),(.bool true),(.int (@OfNat.ofNat Int (nat_lit 374) (@instOfNat (nat_lit 374))) 0),(.ref 157),.none,(.ref 158),(.ref 159),(.ref 160),(.int (@OfNat.ofNat Int (nat_lit 536) (@instOfNat (nat_lit 536))) 0),(.int (@OfNat.ofNat Int (nat_lit 50) (@instOfNat (nat_lit 50))) 0),(.str (Str.ofString "/claim/cut.py") 537)])),(List.toArray [])⟩)::
((nat_lit 162),⟨(.type "function"),none,(.func ⟨(Str.ofString "mode"),(Str.ofString "NormalDist.mode"),a_NormalDist_mode,(.stmts b_NormalDist_mode),s_NormalDist_mode,3,[],.none,.none,.none,(.str (Str.ofString "cpy313.statistics") 387),none,(.ref 161),.none,0⟩),(List.toArray [])⟩)::
((nat_lit 163),⟨(.type "property"),none,(.fields (List.toArray [(.ref 162),.none,.none,.none,(.str (Str.ofString "mode") 539),(.bool false)])),(List.toArray [])⟩)::
((nat_lit 164),⟨(.type "tuple"),none,(.seq (List.toArray []) 0),(List.toArray [])⟩)::
((nat_lit 166),⟨(.type "tuple"),none,(.seq (List.toArray [(.str (Str.ofString "self") 543)]) 0),(List.toArray [])⟩)::
((nat_lit 167),⟨(.type "tuple"),none,(.seq (List.toArray []) 0),(List.toArray [])⟩)::
((nat_lit 169),⟨(.type "code"),none,(.fields (List.toArray [(.str (Str.ofString "stdev") 540),(.str (Str.ofString "NormalDist.stdev") 541),(.str (Str.ofString "/claim/cut.py") 542),(.int (@OfNat.ofNat Int (nat_lit 54) (@instOfNat (nat_lit 54))) 0),(.int (@OfNat.ofNat Int (nat_lit 1) (@instOfNat (nat_lit 1))) 0),(.int (@OfNat.ofNat Int (nat_lit 0) (@instOfNat (nat_lit 0))) 0),(.int (@OfNat.ofNat Int (nat_lit 0) (@instOfNat (nat_lit 0))) 0),(.int (@OfNat.ofNat Int (nat_lit 3) (@instOfNat (nat_lit 3))) 0),(.ref 164),(.bool true),(.int (@OfNat.ofNat Int (nat_lit 374) (@instOfNat (nat_lit 374))) 0),(.ref 165),.none,(.ref 166),(.ref 167),(.ref 168),(.int (@OfNat.ofNat Int (nat_lit 544) (@instOfNat (nat_lit 544))) 0),(.int (@OfNat.ofNat Int (nat_lit 54) (@instOfNat (nat_lit 54))) 0),(.str (Str.ofString "/claim/cut.py") 545)])),(List.toArray [])⟩)::
((nat_lit 170),⟨(.type "function"),none,(.func ⟨(Str.ofString "stdev"),(Str.ofString "NormalDist.stdev"),a_NormalDist_stdev,(.stmts b_NormalDist_stdev),s_NormalDist_stdev,3,[],.none,.none,.none,(.str (Str.ofString "cpy313.statistics") 387),none,(.ref 169),.none,0⟩),(List.toArray [])⟩)::
((nat_lit 171),⟨(.type "property"),none,(.fields (List.toArray [(.ref 170),.none,.none,.none,(.str (Str.ofString "stdev") 547),(.bool false)])),(List.toArray [])⟩)::
((nat_lit 172),⟨(.type "tuple"),none,(.seq (List.toArray []) 0),(List.toArray [])⟩)::
((nat_lit 174),⟨(.type "tuple"),none,(.seq (List.toArray [(.str (Str.ofString "self") 551)]) 0),(List.toArray [])⟩)::
((nat_lit 175),⟨(.type "tuple"),none,(.seq (List.toArray []) 0),(List.toArray [])⟩)::
((nat_lit 177),⟨(.type "code"),none,(.fields (List.toArray [(.str (Str.ofString "variance") 548),(.str (Str.ofString "NormalDist.variance") 549),(.str (Str.ofString "/claim/cut.py") 550),(.int (@OfNat.ofNat Int (nat_lit 58) (@instOfNat (nat_lit 58))) 0),(.int (@OfNat.ofNat Int (nat_lit 1) (@instOfNat (nat_lit 1))) 0),(.int (@OfNat.ofNat Int (nat_lit 0) (@instOfNat (nat_lit 0))) 0),(.int (@OfNat.ofNat Int (nat_lit 0) (@instOfNat (nat_lit 0))) 0),(.int (@OfNat.ofNat Int (nat_lit 3) (@instOfNat (nat_lit 3))) 0),(.ref 172),(.bool true),(.int (@OfNat.ofNat Int (nat_lit 374) (@instOfNat (nat_lit 374))) 0),(.ref 173),.none,(.ref 174),(.ref 175),(.ref 176),(.int (@OfNat.ofNat Int (nat_lit 552) (@instOfNat (nat_lit 552))) 0),(.int (@OfNat.ofNat Int (nat_lit 58) (@instOfNat (nat_lit 58))) 0),(.str (Str.ofString "/claim/cut.py") 553)])),(List.toArray [])⟩)::
((nat_lit 178),⟨(.type "function"),none,(.func ⟨(Str.ofString "variance"),(Str.ofString "NormalDist.variance"),a_NormalDist_variance,(.stmts b_NormalDist_variance),s_NormalDist_variance,3,[],.none,.none,.none,(.str (Str.ofString "cpy313.statistics") 387),none,(.ref 177),.none,0⟩),(List.toArray [])⟩)::
((nat_lit 179),⟨(.type "property"),none,(.fields (List.toArray [(.ref 178),.none,.none,.none,(.str (Str.ofString "variance") 555),(.bool false)])),(List.toArray [])⟩)::
((nat_lit 180),⟨(.type "tuple"),none,(.seq (List.toArray []) 0),(List.toArray [])⟩)::
((nat_lit 182),⟨(.type "tuple"),none,(.seq (List.toArray [(.str (Str.ofString "x1") 559),(.str (Str.ofString "x2") 560)]) 0),(List.toArray [])⟩)::
((nat_lit 183),⟨(.type "tuple"),none,(.seq (List.toArray []) 0),(List.toArray [])⟩)::
((nat_lit 185),⟨(.type "code"),none,(.fields (List.toArray [(.str (Str.ofString "__add__") 556),(.str (Str.ofString "NormalDist.__add__") 557),(.str (Str.ofString "/claim/cut.py") 558),(.int (@OfNat.ofNat Int (nat_lit 62) (@instOfNat (nat_lit 62))) 0),(.int (@OfNat.ofNat Int (nat_lit 2) (@instOfNat (nat_lit 2))) 0),(.int (@OfNat.ofNat Int (nat_lit 0) (@instOfNat (nat_lit 0))) 0),(.int (@OfNat.ofNat Int (nat_lit 0) (@instOfNat (nat_lit 0))) 0),(.int (@OfNat.ofNat Int (nat_lit 3) (@instOfNat (nat_lit 3))) 0),(.ref 180),(.bool true),(.int (@OfNat.ofNat Int (nat_lit 374) (@instOfNat (nat_lit 374))) 0),(.ref 181),.none,(.ref 182),(.ref 183),(.ref 184),(.int (@OfNat.ofNat Int (nat_lit 561) (@instOfNat (nat_lit 561))) 0),(.int (@OfNat.ofNat Int (nat_lit 62) (@instOfNat (nat_lit 62))) 0),(.str (Str.ofString "/claim/cut.py") 562)])),(List.toArray [])⟩)::
((nat_lit 186),⟨(.type "function"),none,(.func ⟨(Str.ofString "__add__"),(Str.ofString "NormalDist.__add__"),a_NormalDist___add__,(.stmts b_NormalDist___add__),s_NormalDist___add__,3,[],.none,.none,.none,(.str (Str.ofString "cpy313.statistics") 387),none,(.ref 185),.none,0⟩),(List.toArray [])⟩)::
((nat_lit 187),⟨(.type "tuple"),none,(.seq (List.toArray []) 0),(List.toArray [])⟩)::
((nat_lit 189),⟨(.type "tuple"),none,(.seq (List.toArray [(.str (Str.ofString "x1") 567),(.str (Str.ofString "x2") 568)]) 0),(List.toArray [])⟩)::
((nat_lit 190),⟨(.type "tuple"),none,(.seq (List.toArray []) 0),(List.toArray [])⟩)::
((nat_lit 192),⟨(.type "code"),none,(.fields (List.toArray [(.str (Str.ofString "__sub__") 564),(.str (Str.ofString "NormalDist.__sub__") 565),(.str (Str.ofString "/claim/cut.py") 566),(.int (@OfNat.ofNat Int (nat_lit 67) (@instOfNat (nat_lit 67))) 0),(.int (@OfNat.ofNat Int (nat_lit 2) (@instOfNat (nat_lit 2))) 0),(.int (@OfNat.ofNat Int (nat_lit 0) (@instOfNat (nat_lit 0))) 0),(.int (@OfNat.ofNat Int (nat_lit 0) (@instOfNat (nat_lit 0))) 0),(.int (@OfNat.ofNat Int (nat_lit 3) (@instOfNat (nat_lit 3))) 0),(.ref 187),(.bool true),(.int (@OfNat.ofNat Int (nat_lit 374) (@instOfNat (nat_lit 374))) 0),(.ref 188),.none,(.ref 189),(.ref 190),(.ref 191),(.int (@OfNat.ofNat Int (nat_lit 569) (@instOfNat (nat_lit 569))) 0),(.int (@OfNat.ofNat Int (nat_lit 67) (@instOfNat (nat_lit 67))) 0),(.str (Str.ofString "/claim/cut.py") 570)])),(List.toArray [])⟩)::
((nat_lit 193),⟨(.type "function"),none,(.func ⟨(Str.ofString "__sub__"),(Str.ofString "NormalDist.__sub__"),a_NormalDist___sub__,(.stmts b_NormalDist___sub__),s_NormalDist___sub__,3,[],.none,.none,.none,(.str (Str.ofString "cpy313.statistics") 387),none,(.ref 192),.none,0⟩),(List.toArray [])⟩)::
((nat_lit 194),⟨(.type "tuple"),none,(.seq (List.toArray []) 0),(List.toArray [])⟩)::
((nat_lit 196),⟨(.type "tuple"),none,(.seq (List.toArray [(.str (Str.ofString "x1") 575),(.str (Str.ofString "x2") 576)]) 0),(List.toArray [])⟩)::
((nat_lit 197),⟨(.type "tuple"),none,(.seq (List.toArray []) 0),(List.toArray [])⟩)::
((nat_lit 199),⟨(.type "code"),none,(.fields (List.toArray [(.str (Str.ofString "__mul__") 572),(.str (Str.ofString "NormalDist.__mul__") 573),(.str (Str.ofString "/claim/cut.py") 574),(.int (@OfNat.ofNat Int (nat_lit 72) (@instOfNat (nat_lit 72))) 0),(.int (@OfNat.ofNat Int (nat_lit 2) (@instOfNat (nat_lit 2))) 0),(.int (@OfNat.ofNat Int (nat_lit 0) (@instOfNat (nat_lit 0))) 0),(.int (@OfNat.ofNat Int (nat_lit 0) (@instOfNat (nat_lit 0))) 0),(.int (@OfNat.ofNat Int (nat_lit 3) (@instOfNat (nat_lit 3))) 0),(.ref 194),(.bool true),(.int (@OfNat.ofNat Int (nat_lit 374) (@instOfNat (nat_lit 374))) 0),(.ref 195),.none,(.ref 196),(.ref 197),(.ref 198),(.int (@OfNat.ofNat Int (nat_lit 577) (@instOfNat (nat_lit 577))) 0),(.int (@OfNat.ofNat Int (nat_lit 72) (@instOfNat (nat_lit 72))) 0),(.str (Str.ofString "/claim/cut.py") 578)])),(List.toArray [])⟩)::
((nat_lit 200),⟨(.type "function"),none,(.func ⟨(Str.ofString "__mul__"),(Str.ofString "NormalDist.__mul__"),a_NormalDist___mul__,(.stmts b_NormalDist___mul__),s_NormalDist___mul__,3,[],.none,.none,.none,(.str (Str.ofString "cpy313.statistics") 387),none,(.ref 199),.none,0⟩),(List.toArray [])⟩)::
((nat_lit 201),⟨(.type "tuple"),none,(.seq (List.toArray []) 0),(List.toArray [])⟩)::
((nat_lit 203),⟨(.type "tuple"),none,(.seq (List.toArray [(.str (Str.ofString "x1") 583),(.str (Str.ofString "x2") 584)]) 0),(List.toArray [])⟩)::
((nat_lit 204),⟨(.type "tuple"),none,(.seq (List.toArray []) 0),(List.toArray [])⟩)::
((nat_lit 206),⟨(.type "code"),none,(.fields (List.toArray [(.str (Str.ofString "__truediv__") 580),(.str (Str.ofString "NormalDist.__truediv__") 581),(.str (Str.ofString "/claim/cut.py") 582),(.int (@OfNat.ofNat Int (nat_lit 75) (@instOfNat (nat_lit 75))) 0),(.int (@OfNat.ofNat Int (nat_lit 2) (@instOfNat (nat_lit 2))) 0),(.int (@OfNat.ofNat Int (nat_lit 0) (@instOfNat (nat_lit 0))) 0),(.int (@OfNat.ofNat Int (nat_lit 0) (@instOfNat (nat_lit 0))) 0),(.int (@OfNat.ofNat Int (nat_lit 3) (@instOfNat (nat_lit 3))) 0),(.ref 201),(.bool true),(.int (@OfNat.ofNat Int (nat_lit 374) (@instOfNat (nat_lit 374))) 0),(.ref 202),.none,(.ref 203),(.ref 204),(.ref 205),(.int (@OfNat.ofNat Int (nat_lit 585) (@instOfNat (nat_lit 585))) 0),(.int (@OfNat.ofNat Int (nat_lit 75) (@instOfNat (nat_lit 75))) 0),(.str (Str.ofString "/claim/cut.py") 586)])),(List.toArray [])⟩)::
((nat_lit 207),⟨(.type "function"),none,(.func ⟨(Str.ofString "__truediv__"),(Str.ofString "NormalDist.__truediv__"),a_NormalDist___truediv__,(.stmts b_NormalDist___truediv__),s_NormalDist___truediv__,3,[],.none,.none,.none,(.str (Str.ofString "cpy313.statistics") 387),none,(.ref 206),.none,0⟩),(List.toArray [])⟩)::
((nat_lit 208),⟨(.type "tuple"),none,(.seq (List.toArray []) 0),(List.toArray [])⟩)::
((nat_lit 210),⟨(.type "tuple"),none,(.seq (List.toArray [(.str (Str.ofString "x1") 591)]) 0),(List.toArray [])⟩)::
((nat_lit 211),⟨(.type "tuple"),none,(.seq (List.toArray []) 0),(List.toArray [])⟩)::
((nat_lit 213),⟨(.type "code"),none,(.fields (List.toArray [(.str (Str.ofString "__pos__") 588),(.str (Str.ofString "NormalDist.__pos__") 589),(.str (Str.ofString "/claim/cut.py") 590),(.int (@OfNat.ofNat Int (nat_lit 78) (@instOfNat (nat_lit 78))) 0),(.int (@OfNat.ofNat Int (nat_lit 1) (@instOfNat (nat_lit 1))) 0),(.int (@OfNat.ofNat Int (nat_lit 0) (@instOfNat (nat_lit 0))) 0),(.int (@OfNat.ofNat Int (nat_lit 0) (@instOfNat (nat_lit 0))) 0),(.int (@OfNat.ofNat Int (nat_lit 3) (@instOfNat (nat_lit 3))) 0),(.ref 208),(.bool true),(.int (@OfNat.ofNat Int (nat_lit 374) (@instOfNat (nat_lit 374))) 0),(.ref 209),.none,(.ref 210),(.ref 211),(.ref 212),(.int (@OfNat.ofNat Int (nat_lit 592) (@instOfNat (nat_lit 592))) 0),(.int (@OfNat.ofNat Int (nat_lit 78) (@instOfNat (nat_lit 78))) 0),(.str (Str.ofString "/claim/cut.py") 593)])),(List.toArray [])⟩)::
((nat_lit 214),⟨(.type "function"),none,(.func ⟨(Str.ofString "__pos__"),(Str.ofString "NormalDist.__pos__"),a_NormalDist___pos__,(.stmts b_NormalDist___pos__),s_NormalDist___pos__,3,[],.none,.none,.none,(.str (Str.ofString "cpy313.statistics") 387),none,(.ref 213),.none,0⟩),(List.toArray [])⟩)::
((nat_lit 215),⟨(.type "tuple"),none,(.seq (List.toArray []) 0),(List.toArray [])⟩)::
((nat_lit 217),⟨(.type "tuple"),none,(.seq (List.toArray [(.str (Str.ofString "x1") 598)]) 0),(List.toArray [])⟩)::
((nat_lit 218),⟨(.type "tuple"),none,(.seq (List.toArray []) 0),(List.toArray [])⟩)::
((nat_lit 220),⟨(.type "code"),none,(.fields (List.toArray [(.str (Str.ofString "__neg__") 595),(.str (Str.ofString "NormalDist.__neg__") 596),(.str (Str.ofString "/claim/cut.py") 597),(.int (@OfNat.ofNat Int (nat_lit 81) (@instOfNat (nat_lit 81))) 0),(.int (@OfNat.ofNat Int (nat_lit 1) (@instOfNat (nat_lit 1))) 0),(.int (@OfNat.ofNat Int (nat_lit 0) (@instOfNat (nat_lit 0))) 0),(.int (@OfNat.ofNat Int (nat_lit 0) (@instOfNat (nat_lit 0))) 0),(.int (@OfNat.ofNat Int (nat_lit 3) (@instOfNat (nat_lit 3))) 0),(.ref 215),(.bool true),(.int (@OfNat.ofNat Int (nat_lit 374) (@instOfNat (nat_lit 374))) 0),(.ref 216),.none,(.ref 217),(.ref 218),(.ref 219),(.int (@OfNat.ofNat Int (nat_lit 599) (@instOfNat (nat_lit 599))) 0),(.int (@OfNat.ofNat Int (nat_lit 81) (@instOfNat (nat_lit 81))) 0),(.str (Str.ofString "/claim/cut.py") 600)])),(List.toArray [])⟩)::
((nat_lit 221),⟨(.type "function"),none,(.func ⟨(Str.ofString "__neg__"),(Str.ofString "NormalDist.__neg__"),a_NormalDist___neg__,(.stmts b_NormalDist___neg__),s_NormalDist___neg__,3,[],.none,.none,.none,(.str (Str.ofString "cpy313.statistics") 387),none,(.ref 220),.none,0⟩),(List.toArray [])⟩)::
((nat_lit 222),⟨(.type "tuple"),none,(.seq (List.toArray []) 0),(List.toArray [])⟩)::
((nat_lit 224),⟨(.type "tuple"),none,(.seq (List.toArray [(.str (Str.ofString "x1") 606),(.str (Str.ofString "x2") 607)]) 0),(List.toArray [])⟩)::
((nat_lit 225),⟨(.type "tuple"),none,(.seq (List.toArray []) 0),(List.toArray [])⟩)::
((nat_lit 227),⟨(.type "code"),none,(.fields (List.toArray [(.str (Str.ofString "__rsub__") 603),(.str (Str.ofString "NormalDist.__rsub__") 604),(.str (Str.ofString "/claim/cut.py") 605),(.int (@OfNat.ofNat Int (nat_lit 85) (@instOfNat (nat_lit 85))) 0),(.int (@OfNat.ofNat Int (nat_lit 2) (@instOfNat (nat_lit 2))) 0),(.int (@OfNat.ofNat Int (nat_lit 0) (@instOfNat (nat_lit 0))) 0),(.int (@OfNat.ofNat Int (nat_lit 0) (@instOfNat (nat_lit 0))) 0),(.int (@OfNat.ofNat Int (nat_lit 3) (@instOfNat (nat_lit 3))) 0),(.ref 222),(.bool true),(.int (@OfNat.ofNat Int (nat_lit 374) (@instOfNat (nat_lit 374))) 0),(.ref 223),.none,(.ref 224),(.ref 225),(.ref 226),(.int (@OfNat.ofNat Int (nat_lit 608) (@instOfNat (nat_lit 608))) 0),(.int (@OfNat.ofNat Int (nat_lit 85) (@instOfNat (nat_lit 85))) 0),(.str (Str.ofString "/claim/cut.py") 609)])),(List.toArray [])⟩)::
((nat_lit 228),⟨(.type "function"),none,(.func ⟨(Str.ofString "__rsub__"),(Str.ofString "NormalDist.__rsub__"),a_NormalDist___rsub__,(.stmts b_NormalDist___rsub__),s_NormalDist___rsub__,3,[],.none,.none,.none,(.str (Str.ofString "cpy313.statistics") 387),none,(.ref 227),.none,0⟩),(List.toArray [])⟩)::
((nat_lit 229),⟨(.type "tuple"),none,(.seq (List.toArray []) 0),(List.toArray [])⟩)::
((nat_lit 231),⟨(.type "tuple"),none,(.seq (List.toArray [(.str (Str.ofString "x1") 615),(.str (Str.ofString "x2") 616)]) 0),(List.toArray [])⟩)::
((nat_lit 232),⟨(.type "tuple"),none,(.seq (List.toArray []) 0),(List.toArray [])⟩)::
((nat_lit 234),⟨(.type "code"),none,(.fields (List.toArray [(.str (Str.ofString "__eq__") 612),(.str (Str.ofString "NormalDist.__eq__") 613),(.str (Str.ofString "/claim/cut.py") 614),(.int (@OfNat.ofNat Int (nat_lit 89) (@instOfNat (nat_lit 89))) 0),(.int (@OfNat.ofNat Int (nat_lit 2) (@instOfNat (nat_lit 2))) 0),(.int (@OfNat.ofNat Int (nat_lit 0) (@instOfNat (nat_lit 0))) 0),(.int (@OfNat.ofNat Int (nat_lit 0) (@instOfNat (nat_lit 0))) 0),(.int (@OfNat.ofNat Int (nat_lit 3) (@instOfNat (nat_lit 3))) 0),(.ref 229),(.bool true),(.int (@OfNat.ofNat Int (nat_lit 374) (@instOfNat (nat_lit 374))) 0),(.ref 230),.none,(.ref 231),(.ref 232),(.ref 233),(.int (@OfNat.ofNat Int (nat_lit 617) (@instOfNat (nat_lit 617))) 0),(.int (@OfNat.ofNat Int (nat_lit 89) (@instOfNat (nat_lit 89))) 0),(.str (Str.ofString "/claim/cut.py") 618)])),(List.toArray [])⟩)::
((nat_lit 235),⟨(.type "function"),none,(.func ⟨(Str.ofString "__eq__"),(Str.ofString "NormalDist.__eq__"),a_NormalDist___eq__,(.stmts b_NormalDist___eq__),s_NormalDist___eq__,3,[],.none,.none,.none,(.str (Str.ofString "cpy313.statistics") 387),none,(.ref 234),.none,0⟩),(List.toArray [])⟩)::
((nat_lit 236),⟨(.type "tuple"),none,(.seq (List.toArray []) 0),(List.toArray [])⟩)::
((nat_lit 238),⟨(.type "tuple"),none,(.seq (List.toArray [(.str (Str.ofString "self") 623)]) 0),(List.toArray [])⟩)::
((nat_lit 239),⟨(.type "tuple"),none,(.seq (List.toArray []) 0),(List.toArray [])⟩)::
((nat_lit 241),⟨(.type "code"),none,(.fields (List.toArray [(.str (Str.ofString "__hash__") 620),(.str (Str.ofString "NormalDist.__hash__") 621),(.str (Str.ofString "/claim/cut.py") 622),(.int (@OfNat.ofNat Int (nat_lit 94) (@instOfNat (nat_lit 94))) 0),(.int (@OfNat.ofNat Int (nat_lit 1) (@instOfNat (nat_lit 1))) 0),(.int (@OfNat.ofNat Int (nat_lit 0) (@instOfNat (nat_lit 0))) 0),(.int (@OfNat.ofNat Int (nat_lit 0) (@instOfNat (nat_lit 0))) 0),(.int (@OfNat.ofNat Int (nat_lit 3) (@instOfNat (nat_lit 3))) 0),(.ref 236),(.bool true),(.int (@OfNat.ofNat Int (nat_lit 374) (@instOfNat (nat_lit 374))) 0),(.ref 237),.none,(.ref 238),(.ref 239),(.ref 240),(.int (@OfNat.ofNat Int (nat_lit 624) (@instOfNat (nat_lit 624))) 0),(.int (@OfNat.ofNat Int (nat_lit 94) (@instOfNat (nat_lit 94))) 0),(.str (Str.ofString "/claim/cut.py") 625)])),(List.toArray [])⟩)::
((nat_lit 242),⟨(.type "function"),none,(.func ⟨(Str.ofString "__hash__"),(Str.ofString "NormalDist.__hash__"),a_NormalDist___hash__,(.stmts b_NormalDist___hash__),s_NormalDist___hash__,3,[],.none,.none,.none,(.str (Str.ofString "cpy313.statistics") 387),none,(.ref 241),.none,0⟩),(List.toArray [])⟩)::
((nat_lit 243),⟨(.type "tuple"),none,(.seq (List.toArray []) 0),(List.toArray [])⟩)::
((nat_lit 245),⟨(.type "tuple"),none,(.seq (List.toArray [(.str (Str.ofString "self") 630)]) 0),(List.toArray [])⟩)::
((nat_lit 246),⟨(.type "tuple"),none,(.seq (List.toArray []) 0),(List.toArray [])⟩)::
((nat_lit 248),⟨(.type "code"),none,(.fields (List.toArray [(.str (Str.ofString "__repr__") 627),(.str (Str.ofString "NormalDist.__repr__") 628),(.str (Str.ofString "/claim/cut.py") 629),(.int (@OfNat.ofNat Int (nat_lit 97) (@instOfNat (nat_lit 97))) 0),(.int (@OfNat.ofNat Int (nat_lit 1) (@instOfNat (nat_lit 1))) 0),(.int (@OfNat.ofNat Int (nat_lit 0) (@instOfNat (nat_lit 0))) 0),(.int (@OfNat.ofNat Int (nat_lit 0) (@instOfNat (nat_lit 0))) 0),(.int (@OfNat.ofNat Int (nat_lit 3) (@instOfNat (nat_lit 3))) 0),(.ref 243),(.bool true),(.int (@OfNat.ofNat Int (nat_lit 374) (@instOfNat (nat_lit 374))) 0),(.ref 244),.none,(.ref 245),(.ref 246),(.ref 247),(.int (@OfNat.ofNat Int (nat_lit 631) (@instOfNat (nat_lit 631))) 0),(.int (@OfNat.ofNat Int (nat_lit 97) (@instOfNat (nat_lit 97))) 0),(.str (Str.ofString "/claim/cut.py") 632)])),(List.toArray [])⟩)::
((nat_lit 249),⟨(.type "function"),none,(.func ⟨(Str.ofString "__repr__"),(Str.ofString "NormalDist.__repr__"),a_NormalDist___repr__,(.stmts b_NormalDist___repr__),s_NormalDist___repr__,3,[],.none,.none,.none,(.str (Str.ofString "cpy313.statistics") 387),none,(.ref 248),.none,0⟩),(List.toArray [])⟩)::
((nat_lit 250),⟨(.type "tuple"),none,(.seq (List.toArray []) 0),(List.toArray [])⟩)::
((nat_lit 252),⟨(.type "tuple"),none,(.seq (List.toArray [(.str (Str.ofString "self") 637)]) 0),(List.toArray [])⟩)::
((nat_lit 253),⟨(.type "tuple"),none,(.seq (List.toArray []) 0),(List.toArray [])⟩)::
((nat_lit 255),⟨(.type "code"),none,(.fields (List.toArray [(.str (Str.ofString "__getstate__") 634),(.str (Str.ofString "NormalDist.__getstate__") 635),(.str (Str.ofString "/claim/cut.py") 636),(.int (@OfNat.ofNat Int (nat_lit 100) (@instOfNat (nat_lit 100))) 0),(.int (@OfNat.ofNat Int (nat_lit 1) (@instOfNat (nat_lit 1))) 0),(.int (@OfNat.ofNat Int (nat_lit 0) (@instOfNat (nat_lit 0))) 0),(.int (@OfNat.ofNat Int (nat_lit 0) (@instOfNat (nat_lit 0))) 0),(.int (@OfNat.ofNat Int (nat_lit 3) (@instOfNat (nat_lit 3))) 0),(.ref 250),(.bool true),(.int (@OfNat.ofNat Int (nat_lit 374) (@instOfNat (nat_lit 374))) 0),(.ref 251),.none,(.ref 252),(.ref 253),(.ref 254),(.int (@OfNat.ofNat Int (nat_lit 638) (@instOfNat (nat_lit 638))) 0),(.int (@OfNat.ofNat Int (nat_lit 100) (@instOfNat (nat_lit 100))) 0),(.str (Str.ofString "/claim/cut.py") 639)])),(List.toArray [])⟩)::
((nat_lit 256),⟨(.type "function"),none,(.func ⟨(Str.ofString "__getstate__"),(Str.ofString "NormalDist.__getstate__"),a_NormalDist___getstate__,(.stmts b_NormalDist___getstate__),s_NormalDist___getstate__,3,[],.none,.none,.none,(.str (Str.ofString "cpy313.statistics") 387),none,(.ref 255),.none,0⟩),(List.toArray [])⟩)::
((nat_lit 257),⟨(.type "tuple"),none,(.seq (List.toArray []) 0),(List.toArray [])⟩)::
((nat_lit 259),⟨(.type "tuple"),none,(.seq (List.toArray [(.str (Str.ofString "self") 644),(.str (Str.ofString "state") 645)]) 0),(List.toArray [])⟩)::
((nat_lit 260),⟨(.type "tuple"),none,(.seq (List.toArray []) 0),(List.toArray [])⟩)::
((nat_lit 262),⟨(.type "code"),none,(.fields (List.toArray [(.str (Str.ofString "__setstate__") 641),(.str (Str.ofString "NormalDist.__setstate__") 642),(.str (Str.ofString "/claim/cut.py") 643),(.int (@OfNat.ofNat Int (nat_lit 103) (@instOfNat (nat_lit 103))) 0),(.int (@OfNat.ofNat Int (nat_lit 2) (@instOfNat (nat_lit 2))) 0),(.int (@OfNat.ofNat Int (nat_lit 0) (@instOfNat (nat_lit 0))) 0),(.int (@OfNat.ofNat Int (nat_lit 0) (@instOfNat (nat_lit 0))) 0),(.int (@OfNat.ofNat Int (nat_lit 3) (@instOfNat (nat_lit 3))) 0),(.ref 257),(.bool true),(.int (@OfNat.ofNat Int (nat_lit 374) (@instOfNat (nat_lit 374))) 0),(.ref 258),.none,(.ref 259),(.ref 260),(.ref 261),(.int (@OfNat.ofNat Int (nat_lit 646) (@instOfNat (nat_lit 646))) 0),(.int (@OfNat.ofNat Int (nat_lit 103) (@instOfNat (nat_lit 103))) 0),(.str (Str.ofString "/claim/cut.py") 647)])),(List.toArray [])⟩)::
((nat_lit 263),⟨(.type "function"),none,(.func ⟨(Str.ofString "__setstate__"),(Str.ofString "NormalDist.__setstate__"),a_NormalDist___setstate__,(.stmts b_NormalDist___setstate__),s_NormalDist___setstate__,3,[],.none,.none,.none,(.str (Str.ofString "cpy313.statistics") 387),none,(.ref 262),.none,0⟩),(List.toArray [])⟩)::
((nat_lit 264),⟨(.type "tuple"),none,(.seq (List.toArray [(.str (Str.ofString "_mu") 649),(.str (Str.ofString "_sigma") 650)]) 0),(List.toArray [])⟩)::
((nat_lit 269),⟨(.type "dict"),none,(.dict (List.toArray [⟨(PySem.PyData.keyHash P (Str.ofString "__module__")),(.str (Str.ofString "__module__") 414),(.str (Str.ofString "cpy313.statistics") 387)⟩,⟨(PySem.PyData.keyHash P (Str.ofString "__firstlineno__")),(.str (Str.ofString "__firstlineno__") 418),(.int (@OfNat.ofNat Int (nat_lit 8) (@instOfNat (nat_lit 8))) 417)⟩,⟨(PySem.PyData.keyHash P (Str.ofString "__slots__")),(.str (Str.ofString "__slots__") 425),(.ref 70)⟩,⟨(PySem.PyData.keyHash P (Str.ofString "__init__")),(.str (Str.ofString "__init__") 436),(.ref 78)⟩,⟨(PySem.PyData.keyHash P (Str.ofString "from_samples")),(.str (Str.ofString "from_samples") 456),(.ref 87)⟩,⟨(PySem.PyData.keyHash P (Str.ofString "samples")),(.str (Str.ofString "samples") 466),(.ref 96)⟩,⟨(PySem.PyData.keyHash P (Str.ofString "pdf")),(.str (Str.ofString "pdf") 474),(.ref 103)⟩,⟨(PySem.PyData.keyHash P (Str.ofString "cdf")),(.str (Str.ofString "cdf") 482),(.ref 110)⟩,⟨(PySem.PyData.keyHash P (Str.ofString "inv_cdf")),(.str (Str.ofString "inv_cdf") 490),(.ref 117)⟩,⟨(PySem.PyData.keyHash P (Str.ofString "quantiles")),(.str (Str.ofString "quantiles") 499),(.ref 125)⟩,⟨(PySem.PyData.keyHash P (Str.ofString "overlap")),(.str (Str.ofString "overlap") 507),(.ref 132)⟩,⟨(PySem.PyData.keyHash P (Str.ofString "zscore")),(.str (Str.ofString "zscore") 515),(.ref 139)⟩,⟨(PySem.PyData.keyHash P (Str.ofString "mean")),(.str (Str.ofString "mean") 523),(.ref 147)⟩,⟨(PySem.PyData.keyHash P (Str.ofString "median")),(.str (Str.ofString "median") 531),(.ref 155)⟩,⟨(PySem.PyData.keyHash P (Str.ofString "mode")),(.str (Str.ofString "mode") 539),(.ref 163)⟩,⟨(PySem.PyData.keyHash P (Str.ofString "stdev")),(.str (Str.ofString "stdev") 547),(.ref 171)⟩,⟨(PySem.PyData.keyHash P (Str.ofString "variance")),(.str (Str.ofString "variance") 555),(.ref 179)⟩,⟨(PySem.PyData.keyHash P (Str.ofString "__add__")),(.str (Str.ofString "__add__") 563),(.ref 186)⟩,⟨(PySem.PyData.keyHash P (Str.ofString "__sub__")),(.str (Str.ofString "__sub__") 571),(.ref 193)⟩,⟨(PySem.PyData.keyHash P (Str.ofString "__mul__")),(.str (Str.ofString "__mul__") 579),(.ref 200)⟩,⟨(PySem.PyData.keyHash P (Str.ofString "__truediv__")),(.str (Str.ofString "__truediv__") 587),(.ref 207)⟩,⟨(PySem.PyData.keyHash P (Str.ofString "__pos__")),(.str (Str.ofString "__pos__") 594),(.ref 214)⟩,⟨(PySem.PyData.keyHash P (Str.ofString "__neg__")),(.str (Str.ofString "__neg__") 601),(.ref 221)⟩,⟨(PySem.PyData.keyHash P (Str.ofString "__radd__")),(.str (Str.ofString "__radd__") 602),(.ref 186)⟩,⟨(PySem.PyData.keyHash P (Str.ofString "__rsub__")),(.str (Str.ofString "__rsub__") 610),(.ref 228)⟩,⟨(PySem.PyData.keyHash P (Str.ofString "__rmul__")),(.str (Str.ofString "__rmul__") 611),(.ref 200)⟩,⟨(PySem.PyData.keyHash P (Str.ofString "__eq__")),(.str (Str.ofString "__eq__") 619),(.ref 235)⟩,⟨(PySem.PyData.keyHash P (Str.ofString "__hash__")),(.str (Str.ofString "__hash__") 626),(.ref 242)⟩,⟨(PySem.PyData.keyHash P (Str.ofString "__repr__")),(.str (Str.ofString "__repr__") 633),(.ref 249)⟩,⟨(PySem.PyData.keyHash P (Str.ofString "__getstate__")),(.str (Str.ofString "__getstate__") 640),(.ref 256)⟩,⟨(PySem.PyData.keyHash P (Str.ofString "__setstate__")),(.str (Str.ofString "__setstate__") 648),(.ref 263)⟩,⟨(PySem.PyData.keyHash P (Str.ofString "__static_attributes__")),(.str (Str.ofString "__static_attributes__") 651),(.ref 264)⟩,⟨(PySem.PyData.keyHash P (Str.ofString "_mu")),(.str (Str.ofString "_mu") 653),(.ref 271)⟩,⟨(PySem.PyData.keyHash P (Str.ofString "_sigma")),(.str (Str.ofString "_sigma") 655),(.ref 272)⟩,⟨(PySem.PyData.keyHash P (Str.ofString "__doc__")),(.str (Str.ofString "__doc__") 656),.none⟩]) 4),(List.toArray [])⟩)::
((nat_lit 270),⟨(.type "type"),none,(.cls ⟨(Str.ofString "NormalDist"),[(.type "object")],[(.ref 270),(.type "object")],269,(Str.ofString "NormalDist"),false,[(Str.ofString "_mu"),(Str.ofString "_sigma")],[],false,none,false⟩),(List.toArray [none,none,(some (.str (Str.ofString "NormalDist") 407)),(some (.str (Str.ofString "NormalDist") 415)),(some (.builtin "object.__new__")),(some (.bool false))])⟩)::
((nat_lit 271),⟨(.type "member_descriptor"),none,(.fields (List.toArray [(.str (Str.ofString "_mu") 652),(.ref 270),(.builtin "proto.slot"),(.builtin "proto.slot#set"),(.int (@OfNat.ofNat Int (nat_lit 1) (@instOfNat (nat_lit 1))) 0)])),(List.toArray [])⟩)::
((nat_lit 272),⟨(.type "member_descriptor"),none,(.fields (List.toArray [(.str (Str.ofString "_sigma") 654),(.ref 270),(.builtin "proto.slot"),(.builtin "proto.slot#set"),(.int (@OfNat.ofNat Int (nat_lit 0) (@instOfNat (nat_lit 0))) 0)])),(List.toArray [])⟩)::
((nat_lit 275),⟨(.type "tuple"),none,(.seq (List.toArray []) 0),(List.toArray [])⟩)::
((nat_lit 277),⟨(.type "tuple"),none,(.seq (List.toArray [(.str (Str.ofString "x") 664),(.str (Str.ofString "bound") 665)]) 0),(List.toArray [])⟩)::
((nat_lit 278),⟨(.type "tuple"),none,(.seq (List.toArray []) 0),(List.toArray [])⟩)::
((nat_lit 280),⟨(.type "code"),none,(.fields (List.toArray [(.str (Str.ofString "_law_near") 661),(.str (Str.ofString "_law_near") 662),(.str (Str.ofString "/claim/cut.py") 663),(.int (@OfNat.ofNat Int (nat_lit 106) (@instOfNat (nat_lit 106))) 0),(.int (@OfNat.ofNat Int (nat_lit 2) (@instOfNat (nat_lit 2))) 0),(.int (@OfNat.ofNat Int (nat_lit 0) (@instOfNat (nat_lit 0))) 0),(.int (@OfNat.ofNat Int (nat_lit 0) (@instOfNat (nat_lit 0))) 0),(.int (@OfNat.ofNat Int (nat_lit 3) (@instOfNat (nat_lit 3))) 0),(.ref 275),(.bool true),(.int (@OfNat.ofNat Int (nat_lit 374) (@instOfNat (nat_lit 374))) 0),(.ref 276),.none,(.ref 277),(.ref 278),(.ref 279),(.int (@OfNat.ofNat Int (nat_lit 666) (@instOfNat (nat_lit 666))) 0),(.int (@OfNat.ofNat Int (nat_lit 106) (@instOfNat (nat_lit 106))) 0),(.str (Str.ofString "/claim/cut.py") 667)])),(List.toArray [])⟩)::
((nat_lit 281),⟨(.type "function"),none,(.func ⟨(Str.ofString "_law_near"),(Str.ofString "_law_near"),a__law_near,(.stmts b__law_near),s__law_near,3,[],.none,.none,.none,(.str (Str.ofString "law_oz0057_03") 659),none,(.ref 280),.none,0⟩),(List.toArray [])⟩)::
((nat_lit 282),⟨(.type "tuple"),none,(.seq (List.toArray []) 0),(List.toArray [])⟩)::
((nat_lit 285),⟨(.type "code"),none,(.fields (List.toArray [(.str (Str.ofString "law") 669),(.str (Str.ofString "law") 670),(.str (Str.ofString "/claim/cut.py") 671),(.int (@OfNat.ofNat Int (nat_lit 108) (@instOfNat (nat_lit 108))) 0),(.int (@OfNat.ofNat Int (nat_lit 1) (@instOfNat (nat_lit 1))) 0),(.int (@OfNat.ofNat Int (nat_lit 0) (@instOfNat (nat_lit 0))) 0),(.int (@OfNat.ofNat Int (nat_lit 0) (@instOfNat (nat_lit 0))) 0),(.int (@OfNat.ofNat Int (nat_lit 3) (@instOfNat (nat_lit 3))) 0),(.ref 282),(.bool true),(.int (@OfNat.ofNat Int (nat_lit 374) (@instOfNat (nat_lit 374))) 0),(.ref 283),.none,.none,.none,(.ref 284),(.int (@OfNat.ofNat Int (nat_lit 672) (@instOfNat (nat_lit 672))) 0),(.int (@OfNat.ofNat Int (nat_lit 108) (@instOfNat (nat_lit 108))) 0),(.str (Str.ofString "/claim/cut.py") 673)])),(List.toArray [])⟩)::
((nat_lit 286),⟨(.type "function"),none,(.func ⟨(Str.ofString "law"),(Str.ofString "law"),a_law,(.stmts b_law),s_law,3,[],.none,.none,.none,(.str (Str.ofString "law_oz0057_03") 659),none,(.ref 285),.none,0⟩),(List.toArray [])⟩)::[]
set_option maxRecDepth 100000 in
set_option maxHeartbeats 0 in
noncomputable def q3 : Program :=
  letI c0 : Stmt := _
  haveI : PySem.Challenge.pw_oz0057_03.main.body[0]? = some c0 := rfl
  letI c1 : Stmt := _
  haveI : PySem.Challenge.pw_oz0057_03.main.body[1]? = some c1 := rfl
  letI c3 : Stmt := _
  haveI : PySem.Challenge.pw_oz0057_03.main.body[3]? = some c3 := rfl
  letI c4 : Stmt := _
  haveI : PySem.Challenge.pw_oz0057_03.main.body[4]? = some c4 := rfl
  letI c6 : Stmt := _
  haveI : PySem.Challenge.pw_oz0057_03.main.body[6]? = some c6 := rfl
  letI c7 : Stmt := _
  haveI : PySem.Challenge.pw_oz0057_03.main.body[7]? = some c7 := rfl
  { PySem.Challenge.pw_oz0057_03 with main := { PySem.Challenge.pw_oz0057_03.main with body := [c0, c1, c3, c4, c6, c7] } }
set_option maxRecDepth 100000 in
set_option maxHeartbeats 0 in
def T3 : Prop :=
  letI d : DefRec := _
  haveI : defOf q3 PySem.Challenge.rw_oz0057_03.row.toRowW.name = some (d, []) := rfl
  WalkO q3 [Str.ofString "NormalDist"] (XL q3 []) (kHook K3 ((nat_lit 2)::(nat_lit 3)::(nat_lit 43)::(nat_lit 45)::(nat_lit 46)::(nat_lit 48)::(nat_lit 49)::(nat_lit 50)::(nat_lit 57)::(nat_lit 58)::(nat_lit 59)::(nat_lit 60)::(nat_lit 70)::(nat_lit 71)::(nat_lit 72)::(nat_lit 74)::(nat_lit 75)::(nat_lit 77)::(nat_lit 78)::(nat_lit 79)::(nat_lit 81)::(nat_lit 82)::(nat_lit 84)::(nat_lit 85)::(nat_lit 86)::(nat_lit 87)::(nat_lit 88)::(nat_lit 89)::(nat_lit 90)::(nat_lit 92)::(nat_lit 93)::(nat_lit 95)::(nat_lit 96)::(nat_lit 97)::(nat_lit 99)::(nat_lit 100)::(nat_lit 102)::(nat_lit 103)::(nat_lit 104)::(nat_lit 106)::(nat_lit 107)::(nat_lit 109)::(nat_lit 110)::(nat_lit 111)::(nat_lit 113)::(nat_lit 114)::(nat_lit 116)::(nat_lit 117)::(nat_lit 118)::(nat_lit 119)::(nat_lit 121)::(nat_lit 122)::(nat_lit 124)::(nat_lit 125)::(nat_lit 126)::(nat_lit 128)::(nat_lit 129)::(nat_lit 131)::(nat_lit 132)::(nat_lit 133)::(nat_lit 135)::(nat_lit 136)::(nat_lit 138)::(nat_lit 139)::(nat_lit 140)::(nat_lit 142)::(nat_lit 143)::(nat_lit 145)::(nat_lit 146)::(nat_lit 147)::(nat_lit 148)::(nat_lit 150)::(nat_lit 151)::(nat_lit 153)::(nat_lit 154)::(nat_lit 155)::(nat_lit 156)::(nat_lit 158)::(nat_lit 159)::(nat_lit 161)::(nat_lit 162)::(nat_lit 163)::(nat_lit 164)::(nat_lit 166)::(nat_lit 167)::(nat_lit 169)::(nat_lit 170)::(nat_lit 171)::(nat_lit 172)::(nat_lit 174)::(nat_lit 175)::(nat_lit 177)::(nat_lit 178)::(nat_lit 179)::(nat_lit 180)::(nat_lit 182)::(nat_lit 183)::(nat_lit 185)::(nat_lit 186)::(nat_lit 187)::(nat_lit 189)::(nat_lit 190)::(nat_lit 192)::(nat_lit 193)::(nat_lit 194)::(nat_lit 196)::(nat_lit 197)::(nat_lit 199)::(nat_lit 200)::(nat_lit 201)::(nat_lit 203)::(nat_lit 204)::(nat_lit 206)::(nat_lit 207)::(nat_lit 208)::(nat_lit 210)::(nat_lit 211)::(nat_lit 213)::(nat_lit 214)::(nat_lit 215)::(nat_lit 217)::(nat_lit 218)::(nat_lit 220)::(nat_lit 221)::(nat_lit 222)::(nat_lit 224)::(nat_lit 225)::(nat_lit 227)::(nat_lit 228)::(nat_lit 229)::(nat_lit 231)::(nat_lit 232)::(nat_lit 234)::(nat_lit 235)::(nat_lit 236)::(nat_lit 238)::(nat_lit 239)::(nat_lit 241)::(nat_lit 242)::(nat_lit 243)::(nat_lit 245)::(nat_lit 246)::(nat_lit 248)::(nat_lit 249)::(nat_lit 250)::(nat_lit 252)::(nat_lit 253)::(nat_lit 255)::(nat_lit 256)::(nat_lit 257)::(nat_lit 259)::(nat_lit 260)::(nat_lit 262)::(nat_lit 263)::(nat_lit 264)::(nat_lit 269)::(nat_lit 270)::(nat_lit 271)::(nat_lit 272)::(nat_lit 275)::(nat_lit 277)::(nat_lit 278)::(nat_lit 280)::(nat_lit 281)::(nat_lit 282)::(nat_lit 285)::(nat_lit 286)::[]) (fun _ => by kernel_rfl)).says PySem.Challenge.rw_oz0057_03.row.toRowW d [] (fun f vs => PySem.call f vs [])
end Mine

end HK3
section Refl
open PySem PySem.W PySem.Calls PyProof.Rows
set_option Elab.async false
namespace Mine
section
variable {prog : Program} {w : World} {A : Around} {E : Value → Shared → Prop} {s : Shared} {K : Frag} {x C L f f0 : Addr} {h₀ : Heap} {m : Str → Option Value} {ox : Obj} {od : Option Obj} {T : String}

theorem int_mul_plain (a : Int) (t : Tok) (l : Addr) (o : Obj) (ho : o.data = .plain) :
    Meets (Builtin.«int.__mul__» ⟨[.int a t, .ref l], []⟩) (fun _ R s => s.heap.get? l = some o ∧ R (.ok (.ret Value.notImplemented)) s) :=
  .of_wp fun prog w A R s h => by
    obtain ⟨hp, g, d, tk, os⟩ := s; obtain ⟨hl, h⟩ := h
    obtain ⟨c, di, da, sl⟩ := o
    dsimp only at ho
    subst ho
    wp_walk; exact ⟨_, rfl, h⟩
theorem float_sub_plain (a : UInt64) (t : Tok) (l : Addr) (o : Obj) (ho : o.data = .plain) :
    Meets (Builtin.«float.__sub__» ⟨[.float a t, .ref l], []⟩) (fun _ R s => s.heap.get? l = some o ∧ R (.ok (.ret Value.notImplemented)) s) :=
  .of_wp fun prog w A R s h => by
    obtain ⟨hp, g, d, tk, os⟩ := s; obtain ⟨hl, h⟩ := h
    obtain ⟨c, di, da, sl⟩ := o
    dsimp only at ho
    subst ho
    wp_walk; exact ⟨_, rfl, h⟩
theorem float_add_plain (a : UInt64) (t : Tok) (l : Addr) (o : Obj) (ho : o.data = .plain) :
    Meets (Builtin.«float.__add__» ⟨[.float a t, .ref l], []⟩) (fun _ R s => s.heap.get? l = some o ∧ R (.ok (.ret Value.notImplemented)) s) :=
  .of_wp fun prog w A R s h => by
    obtain ⟨hp, g, d, tk, os⟩ := s; obtain ⟨hl, h⟩ := h
    obtain ⟨c, di, da, sl⟩ := o
    dsimp only at ho
    subst ho
    wp_walk; exact ⟨_, rfl, h⟩

theorem rbin_K {op : Operator} {a : Value} {id : String} {Q : Value → Shared → Prop} (F : Fr h₀ L s.heap m) (X₀ : K.In h₀) (I : InstAt s.heap x ox C od) (ha : s.TypeIs a T) (ha' : typeOf a = pure (.type T)) (hc : selfFirst K C = true)
    (hfT : fillsNumberSlot (.type T) op.info.2 = pure true) (sl : Slot T (PySem.dunder op.info.2) id)
    (hs : findIn K (.ref C) (PySem.dunder op.info.2) = some (some (.ref f0))) (hr : findIn K (.ref C) (dunderR op.info.2) = some (some (.ref f))) (hf : isFn K (.ref f) = true)
    (hsub : subIn K (.ref C) (.type T) = some false)
    (hcall : ∀ Q' : Value → Shared → Prop, Q' .notImplemented s → wpAny (model prog w) A (call (.builtin id) [a, .ref x]) Q' E s)
    (h : wpAny (model prog w) A (call (.ref f) [.ref x, a]) (W.CmpBack Q) E s) : wpAny (model prog w) A (binaryOp op a (.ref x)) Q E s := by
  have X := X₀.keeps F.keep
  obtain ⟨cd, rest, hcd, hm⟩ := ksp_first hc
  rcases hi : op.info with ⟨sym, nm'⟩
  rw [hi] at hs hr hfT sl
  dsimp only at hs hr hfT sl
  have one := ksp_try X I hr hf h
  obtain ⟨hh, g, d, tt, os⟩ := s
  have L1 : Looks (model prog w) hh (typeOf (.ref x)) (.ref C) := I.type
  have L2 : Looks (model prog w) hh (typeOf a) (.type T) := Looks.of_pure ha'
  have L3 : Looks (model prog w) hh (fillsNumberSlot (.ref C) nm') true := fills_K X hcd hm hs
  have L4 : Looks (model prog w) hh (fillsNumberSlot (.type T) nm') true := Looks.of_pure hfT
  have L5 : Looks (model prog w) hh (isSubtype (.ref C) (.type T)) false := looks_subIn X hsub
  have L7 : Looks (model prog w) hh (numberSlotInPython (.type T) nm') false := Looks.of_pure rfl
  have hne : (Value.type T == Value.ref C) = false := Bool.eq_false_iff.mpr fun q => by cases beq_iff_eq.mp q
  simp only [binaryOp, hi]
  refine wpAny_holding (wpAny_bind ?_)
  unfold binaryOp1
  refine wpAny_bind (L2.at (wpAny_bind (L1.at (wpAny_bind (L4.at ?_)))))
  simp only [hne, Bool.false_eq_true, if_false]
  have two : ∀ Q' : Option Value → Shared → Prop, Q' none ⟨hh, g, d, tt, os⟩ → wpAny (model prog w) A (tryMethod a (PySem.dunder nm') (.ref x)) Q' E ⟨hh, g, d, tt, os⟩ := fun Q' hq => by
    unfold tryMethod
    exact wpAny_bind (wpAny_callSpecial?_slot ha sl (hcall _ (wpAny_pure hq)))
  repeat ((fail_if_success (with_reducible show wpAny _ _ (tryMethod _ _ _) _ _ _)); lk)
  refine two _ ?_
  dsimp only
  repeat ((fail_if_success (with_reducible show wpAny _ _ (tryMethod _ _ _) _ _ _)); lk)
  refine wpAny_mono one (fun r s' hr' => ?_) fun _ _ e => e
  obtain ⟨v, rfl, hq⟩ := hr'
  repeat ((fail_if_success (with_reducible show wpAny _ _ (tryMethod _ _ _) _ _ _)); lk)
  exact hq
theorem mul_int_inst {k : Int} {t : Tok} {Q : Value → Shared → Prop} (F : Fr h₀ L s.heap m) (X₀ : K.In h₀) (I : InstAt s.heap x ox C od) (ho : ox.data = .plain) (hc : selfFirst K C = true)
    (hs : findIn K (.ref C) (PySem.dunder (Operator.Mult).info.2) = some (some (.ref f0))) (hr : findIn K (.ref C) (dunderR (Operator.Mult).info.2) = some (some (.ref f))) (hf : isFn K (.ref f) = true)
    (hsub : subIn K (.ref C) (.type "int") = some false)
    (h : wpAny (model prog w) A (call (.ref f) [.ref x, .int k t]) (W.CmpBack Q) E s) : wpAny (model prog w) A (binaryOp .Mult (.int k t) (.ref x)) Q E s :=
  rbin_K F X₀ I (typeIs_int s k t) rfl hc PySem.F.fills_int_mul PySem.F.slot_int_mul hs hr hf hsub
    (fun Q' hq => call_meets PySem.F.slot_int_mul (typeIs_int s k t) PySem.F.entry_int_mul (PySem.F.args_int_mul_2 _ _) (int_mul_plain k t x ox ho) ⟨I.at_, hq⟩) h
theorem sub_float_inst {k : UInt64} {t : Tok} {Q : Value → Shared → Prop} (F : Fr h₀ L s.heap m) (X₀ : K.In h₀) (I : InstAt s.heap x ox C od) (ho : ox.data = .plain) (hc : selfFirst K C = true)
    (hs : findIn K (.ref C) (PySem.dunder (Operator.Sub).info.2) = some (some (.ref f0))) (hr : findIn K (.ref C) (dunderR (Operator.Sub).info.2) = some (some (.ref f))) (hf : isFn K (.ref f) = true)
    (hsub : subIn K (.ref C) (.type "float") = some false)
    (h : wpAny (model prog w) A (call (.ref f) [.ref x, .float k t]) (W.CmpBack Q) E s) : wpAny (model prog w) A (binaryOp .Sub (.float k t) (.ref x)) Q E s :=
  rbin_K F X₀ I (typeIs_float s k t) rfl hc PySem.F.fills_float_sub PySem.F.slot_float_sub hs hr hf hsub
    (fun Q' hq => call_meets PySem.F.slot_float_sub (typeIs_float s k t) PySem.F.entry_float_sub (PySem.F.args_float_sub_2 _ _) (float_sub_plain k t x ox ho) ⟨I.at_, hq⟩) h
theorem add_float_inst {k : UInt64} {t : Tok} {Q : Value → Shared → Prop} (F : Fr h₀ L s.heap m) (X₀ : K.In h₀) (I : InstAt s.heap x ox C od) (ho : ox.data = .plain) (hc : selfFirst K C = true)
    (hs : findIn K (.ref C) (PySem.dunder (Operator.Add).info.2) = some (some (.ref f0))) (hr : findIn K (.ref C) (dunderR (Operator.Add).info.2) = some (some (.ref f))) (hf : isFn K (.ref f) = true)
    (hsub : subIn K (.ref C) (.type "float") = some false)
    (h : wpAny (model prog w) A (call (.ref f) [.ref x, .float k t]) (W.CmpBack Q) E s) : wpAny (model prog w) A (binaryOp .Add (.float k t) (.ref x)) Q E s :=
  rbin_K F X₀ I (typeIs_float s k t) rfl hc PySem.F.fills_float_add PySem.F.slot_float_add hs hr hf hsub
    (fun Q' hq => call_meets PySem.F.slot_float_add (typeIs_float s k t) PySem.F.entry_float_add (PySem.F.args_float_add_2 _ _) (float_add_plain k t x ox ho) ⟨I.at_, hq⟩) h
end
section
open PySem.Builtin.Math
theorem kind_hypot : builtinKind "math.hypot" = none := by decide +kernel
theorem plain_hypot : plainId "math.hypot" = true := by decide +kernel
theorem entry_hypot : entryFor table "math.hypot" = some Builtin.«math.hypot» := entryFor_of_fast (by kernel_rfl)
theorem args_hypot (a b : Value) : argsOk "math.hypot" ⟨[a, b], []⟩ := by unfold argsOk; kernel_rfl
theorem gives_hypot (x : UInt64) (t : Tok) (y : UInt64) (u : Tok) :
    Gives (Builtin.«math.hypot» ⟨[.float x t, .float y u], []⟩) (.float (vectorNorm [Float64.abs x, Float64.abs y])) :=
  .of_wp fun M A E s Q h => by obtain ⟨hp, g, d, tk, os⟩ := s; wp_walk; exact ⟨_, rfl, h⟩
theorem call_hypot {prog : Program} {w : World} {A : Around} {E : Value → Shared → Prop} {s : Shared} {x y : UInt64} {t u : Tok} {Q : Value → Shared → Prop}
    (h : Q (.float (vectorNorm [Float64.abs x, Float64.abs y]) s.toks) { s with toks := s.toks + 1 }) : wpAny (model prog w) A (call (.builtin "math.hypot") [.float x t, .float y u]) Q E s :=
  Flt.call_fn_gives kind_hypot plain_hypot entry_hypot (args_hypot _ _) (gives_hypot x t y u) h
end
end Mine

end Refl
section CT3
open PySem PySem.W PySem.Calls PyProof.Rows
set_option Elab.async false
set_option linter.unusedVariables false
namespace Mine
abbrev ndO (dx : Addr) (mu sg : Value) : Obj := { cls := .ref 270, dict := some dx, data := .plain, slots := [some mu, some sg].toArray }
abbrev AA (d : Nat) (env : Env) (outer : List Env) (gs : Option (List Code)) (u : Nat) : Around := { handled := none, depth := d, frames := some (env :: outer), guards := gs, units := u }
theorem notOver {k : Int} (h : k.natAbs < 2 ^ 63) : ¬ Flt.Over k := by
  intro c
  have c2 : 2 ^ 1024 - 2 ^ 970 ≤ k.natAbs := c
  have : (2 : Nat) ^ 63 ≤ 2 ^ 1024 - 2 ^ 970 := by decide +kernel
  omega
theorem strKeys_of {l : List DictEntry} (h : l.all (fun e => match e.key with | .str .. => true | _ => false) = true) : StrKeys l.toArray := by
  intro e he
  have := List.all_eq_true.mp h e (by simpa using he)
  cases hk : e.key <;> rw [hk] at this <;> first | exact ⟨_, _, rfl⟩ | cases this
section
variable {w : World} {A₀ : Around} {E : Value → Shared → Prop} {s : Shared} {L : Addr} {h₀ base : Heap} {m mg mb : Str → Option Value} {news : List (Addr × Obj)} {mean : ExcName → Option Value} {env : Env} {outer : List Env} {Q : Value → Shared → Prop}
  {p : Program} {loose : List Str} {d u : Nat} {gs : Option (List Code)} {mu sg mu2 sg2 : UInt64} {t1 t2 t3 t4 : Tok} {x dx y dy : Addr}
local macro_rules | `(tactic| k_all) => `(tactic| assumption)
local macro_rules | `(tactic| walk_at "call builtin:math.hypot") => `(tactic| (refine call_hypot ?_))
set_option maxRecDepth 100000 in
set_option maxHeartbeats 8000000 in
theorem mkND (B : Below A₀ base outer h₀) (F : Fr h₀ L s.heap m) (N : News h₀ L s.heap news) (T : Top p loose mean mg mb h₀)
    (hf : env.frame = some L) (hke : env.scope.kind = .function) (hroom : d + 5 < recursionLimit)
    (hs : (Float64.cmp (sg) 0 == some Ordering.lt) = false)
    (h : ∀ (x' dx' : Addr) h' tk, (Float64.cmp (sg) 0 == some Ordering.lt) = false → Fr h₀ L h' m → News h₀ L h' ((x', ndO dx' (.float (mu) t1) (.float (sg) t2)) :: (dx', dictOf [] 0) :: news) → Q (.ref x') { s with heap := h', toks := tk }) :
    (K3 w.params).In h₀ → wpAny (model PySem.Challenge.rw_oz0057_03.row.prog w) (AA d env outer gs u) (call (.ref 270) [.float mu t1, .float sg t2] []) Q E s := by
  k_fill
  intro X₀
  refine' call_cls (K := (K3 w.params)) (fI := 78) F X₀ N ?k4 ?k5 ?k6 ?_
  case k4 => k_is
  case k5 => k_is
  case k6 => k_is
  intro x' d' h' F' N' l1 l2
  k_lt2 l2
  have l3 : ∀ p ∈ news, p.1 ≠ x' := fun p hp => by have := ltN (l1 p hp); exact neN (by omega)
  have l4 : ∀ p ∈ news, p.1 ≠ d' := fun p hp => by have := ltN (l1 p hp); exact neN (by omega)
  refine' code_def (K := (K3 w.params)) B ?k2 ?k3 ?k4 T ?kA hf hke ?k6 ?k7 ?k8 ?k9 ?kB ?_ ?c2 ?c3 ?c4 ?c5
  case kA => exact rfl
  case k2 => k_asm
  case k3 => k_asm
  case k4 => k_asm
  case k6 => k_is
  case k7 => k_is
  case k8 => (simp only [depth_under_make]; omega)
  case k9 => first | exact BindsTo.of_eq rfl | exact binds_K (by k_in) rfl (by k_is) rfl rfl rfl
  case kB => exact locs rfl
  case c5 => decide
  case c2 => exact rfl
  case c3 => exact rfl
  case c4 => exact rfl
  intro g' L' h' FG' F' N' B' X' T'
  dsimp only
  try k_fold
  k_steps
  refine' h _ _ _ _ hs ?fa ?fb
  case fa => assumption
  case fb => assumption

local macro_rules | `(tactic| walk_at "call ref") => `(tactic| (k_here; (with_reducible show wpAny _ _ (call (Value.ref 270) [Value.float _ _, Value.float _ _] _) _ _ _); k_dflt (refine' mkND ?B ?F ?N ?T ?hf ?hke ?hr ?hs ?_ ?X; (case B => k_asm); (case F => k_asm); (case N => k_asm); (case T => k_asm); (case hf => exact rfl); (case hke => exact rfl); (case hr => first | omega | (simp only [depth_under_make, depth_under_kw, depth_in1, depth_deeper, depth_caller]; omega)); (case hs => assumption); (case X => k_in)); intro x' d' h' tk' hs' F' N'; (try k_sweep)))

set_option maxRecDepth 100000 in
set_option maxHeartbeats 8000000 in
theorem mul_ri {k : Int} {t : Tok}
    (B : Below A₀ base outer h₀) (F : Fr h₀ L s.heap m) (N : News h₀ L s.heap news) (T : Top p loose mean mg mb h₀)
    (hf : env.frame = some L) (hke : env.scope.kind = .function) (hroom : d + 10 < recursionLimit)
    (hx : (x, ndO dx (.float mu t1) (.float sg t2)) ∈ news) (hdx : (dx, dictOf [] 0) ∈ news) (hk : k.natAbs < 2 ^ 63)
    (hs : (Float64.cmp (Float64.mul sg (Float64.abs (Float64.ofInt k))) 0 == some Ordering.lt) = false)
    (h : ∀ (x' dx' : Addr) h' tk t1 t2, (Float64.cmp (Float64.mul sg (Float64.abs (Float64.ofInt k))) 0 == some Ordering.lt) = false → Fr h₀ L h' m → News h₀ L h' ((x', ndO dx' (.float (Float64.mul mu (Float64.ofInt k)) t1) (.float (Float64.mul sg (Float64.abs (Float64.ofInt k))) t2)) :: (dx', dictOf [] 0) :: news) → Q (.ref x') { s with heap := h', toks := tk }) :
    (K3 w.params).In h₀ → wpAny (model PySem.Challenge.rw_oz0057_03.row.prog w) (AA d env outer gs u) (binaryOp .Mult (.ref x) (.int k t)) Q E s := by
  k_fill
  intro X₀
  have hov := notOver hk
  have hov2 : k.natAbs < 2 ^ 1024 - 2 ^ 970 := Nat.lt_of_lt_of_le hk (by decide +kernel)
  refine' ksp_binT (K := (K3 w.params)) (C := 270) F X₀ ?I ?hB ?hC ?hS ?hF ?hR ?hP ?h1 ?h2 ?hU ?_
  case hB => exact rfl
  case I => exact InstAt.of_news N hx hdx
  case hS => k_is
  case hF => k_is
  case hC => k_is
  case hR => k_is
  case hP => first | exact .inl rfl | exact .inr ⟨_, rfl⟩
  case h1 => k_is
  case h2 => k_is
  case hU => k_is
  refine wpAny_call ?_
  refine' code_def (K := (K3 w.params)) B ?k2 ?k3 ?k4 T ?kA hf hke ?k6 ?k7 ?k8 ?k9 ?kB ?_ ?c2 ?c3 ?c4 ?c5
  case kA => exact rfl
  case k2 => k_asm
  case k3 => k_asm
  case k4 => k_asm
  case k6 => k_is
  case k7 => k_is
  case k8 => (show d < _; omega)
  case k9 => first | exact BindsTo.of_eq rfl | exact binds_K (by k_in) rfl (by k_is) rfl rfl rfl
  case kB => exact locs rfl
  case c5 => decide
  case c2 => exact rfl
  case c3 => exact rfl
  case c4 => exact rfl
  intro g' L' h' FG' F' N' B' X' T'
  dsimp only
  try k_fold
  k_steps
  refine' h _ _ _ _ _ _ hs ?fa ?fb
  case fa => assumption
  case fb => assumption

set_option maxRecDepth 100000 in
set_option maxHeartbeats 8000000 in
theorem mul_ir {k : Int} {t : Tok}
    (B : Below A₀ base outer h₀) (F : Fr h₀ L s.heap m) (N : News h₀ L s.heap news) (T : Top p loose mean mg mb h₀)
    (hf : env.frame = some L) (hke : env.scope.kind = .function) (hroom : d + 10 < recursionLimit)
    (hx : (x, ndO dx (.float mu t1) (.float sg t2)) ∈ news) (hdx : (dx, dictOf [] 0) ∈ news) (hk : k.natAbs < 2 ^ 63)
    (hs : (Float64.cmp (Float64.mul sg (Float64.abs (Float64.ofInt k))) 0 == some Ordering.lt) = false)
    (h : ∀ (x' dx' : Addr) h' tk t1 t2, (Float64.cmp (Float64.mul sg (Float64.abs (Float64.ofInt k))) 0 == some Ordering.lt) = false → Fr h₀ L h' m → News h₀ L h' ((x', ndO dx' (.float (Float64.mul mu (Float64.ofInt k)) t1) (.float (Float64.mul sg (Float64.abs (Float64.ofInt k))) t2)) :: (dx', dictOf [] 0) :: news) → Q (.ref x') { s with heap := h', toks := tk }) :
    (K3 w.params).In h₀ → wpAny (model PySem.Challenge.rw_oz0057_03.row.prog w) (AA d env outer gs u) (binaryOp .Mult (.int k t) (.ref x)) Q E s := by
  k_fill
  intro X₀
  have hov := notOver hk
  have hov2 : k.natAbs < 2 ^ 1024 - 2 ^ 970 := Nat.lt_of_lt_of_le hk (by decide +kernel)
  refine' mul_int_inst (K := (K3 w.params)) (C := 270) F X₀ (InstAt.of_news N hx hdx) rfl ?hC ?hS ?hR ?hF ?hU ?_
  case hC => k_is
  case hS => k_is
  case hR => k_is
  case hF => k_is
  case hU => k_is
  refine wpAny_call ?_
  refine' code_def (K := (K3 w.params)) B ?k2 ?k3 ?k4 T ?kA hf hke ?k6 ?k7 ?k8 ?k9 ?kB ?_ ?c2 ?c3 ?c4 ?c5
  case kA => exact rfl
  case k2 => k_asm
  case k3 => k_asm
  case k4 => k_asm
  case k6 => k_is
  case k7 => k_is
  case k8 => (show d < _; omega)
  case k9 => first | exact BindsTo.of_eq rfl | exact binds_K (by k_in) rfl (by k_is) rfl rfl rfl
  case kB => exact locs rfl
  case c5 => decide
  case c2 => exact rfl
  case c3 => exact rfl
  case c4 => exact rfl
  intro g' L' h' FG' F' N' B' X' T'
  dsimp only
  try k_fold
  k_steps
  refine' h _ _ _ _ _ _ hs ?fa ?fb
  case fa => assumption
  case fb => assumption

set_option maxRecDepth 100000 in
set_option maxHeartbeats 8000000 in
theorem mul_rf {z : UInt64} {t : Tok}
    (B : Below A₀ base outer h₀) (F : Fr h₀ L s.heap m) (N : News h₀ L s.heap news) (T : Top p loose mean mg mb h₀)
    (hf : env.frame = some L) (hke : env.scope.kind = .function) (hroom : d + 10 < recursionLimit)
    (hx : (x, ndO dx (.float mu t1) (.float sg t2)) ∈ news) (hdx : (dx, dictOf [] 0) ∈ news)
    (hs : (Float64.cmp (Float64.mul sg (Float64.abs z)) 0 == some Ordering.lt) = false)
    (h : ∀ (x' dx' : Addr) h' tk t1 t2, (Float64.cmp (Float64.mul sg (Float64.abs z)) 0 == some Ordering.lt) = false → Fr h₀ L h' m → News h₀ L h' ((x', ndO dx' (.float (Float64.mul mu z) t1) (.float (Float64.mul sg (Float64.abs z)) t2)) :: (dx', dictOf [] 0) :: news) → Q (.ref x') { s with heap := h', toks := tk }) :
    (K3 w.params).In h₀ → wpAny (model PySem.Challenge.rw_oz0057_03.row.prog w) (AA d env outer gs u) (binaryOp .Mult (.ref x) (.float z t)) Q E s := by
  k_fill
  intro X₀
  refine' ksp_binT (K := (K3 w.params)) (C := 270) F X₀ ?I ?hB ?hC ?hS ?hF ?hR ?hP ?h1 ?h2 ?hU ?_
  case hB => exact rfl
  case I => exact InstAt.of_news N hx hdx
  case hS => k_is
  case hF => k_is
  case hC => k_is
  case hR => k_is
  case hP => first | exact .inl rfl | exact .inr ⟨_, rfl⟩
  case h1 => k_is
  case h2 => k_is
  case hU => k_is
  refine wpAny_call ?_
  refine' code_def (K := (K3 w.params)) B ?k2 ?k3 ?k4 T ?kA hf hke ?k6 ?k7 ?k8 ?k9 ?kB ?_ ?c2 ?c3 ?c4 ?c5
  case kA => exact rfl
  case k2 => k_asm
  case k3 => k_asm
  case k4 => k_asm
  case k6 => k_is
  case k7 => k_is
  case k8 => (show d < _; omega)
  case k9 => first | exact BindsTo.of_eq rfl | exact binds_K (by k_in) rfl (by k_is) rfl rfl rfl
  case kB => exact locs rfl
  case c5 => decide
  case c2 => exact rfl
  case c3 => exact rfl
  case c4 => exact rfl
  intro g' L' h' FG' F' N' B' X' T'
  dsimp only
  try k_fold
  k_steps
  refine' h _ _ _ _ _ _ hs ?fa ?fb
  case fa => assumption
  case fb => assumption

set_option maxRecDepth 100000 in
set_option maxHeartbeats 8000000 in
theorem div_ri {k : Int} {t : Tok}
    (B : Below A₀ base outer h₀) (F : Fr h₀ L s.heap m) (N : News h₀ L s.heap news) (T : Top p loose mean mg mb h₀)
    (hf : env.frame = some L) (hke : env.scope.kind = .function) (hroom : d + 10 < recursionLimit)
    (hx : (x, ndO dx (.float mu t1) (.float sg t2)) ∈ news) (hdx : (dx, dictOf [] 0) ∈ news) (hk : k.natAbs < 2 ^ 63) (hk0 : k ≠ 0) (hz : ¬ Float64.isZero (Float64.abs (Float64.ofInt k)) = true)
    (hs : (Float64.cmp (Float64.div sg (Float64.abs (Float64.ofInt k))) 0 == some Ordering.lt) = false)
    (h : ∀ (x' dx' : Addr) h' tk t1 t2, (Float64.cmp (Float64.div sg (Float64.abs (Float64.ofInt k))) 0 == some Ordering.lt) = false → Fr h₀ L h' m → News h₀ L h' ((x', ndO dx' (.float (Float64.div mu (Float64.ofInt k)) t1) (.float (Float64.div sg (Float64.abs (Float64.ofInt k))) t2)) :: (dx', dictOf [] 0) :: news) → Q (.ref x') { s with heap := h', toks := tk }) :
    (K3 w.params).In h₀ → wpAny (model PySem.Challenge.rw_oz0057_03.row.prog w) (AA d env outer gs u) (binaryOp .Div (.ref x) (.int k t)) Q E s := by
  k_fill
  intro X₀
  have hov := notOver hk
  have hov2 : k.natAbs < 2 ^ 1024 - 2 ^ 970 := Nat.lt_of_lt_of_le hk (by decide +kernel)
  refine' ksp_binT (K := (K3 w.params)) (C := 270) F X₀ ?I ?hB ?hC ?hS ?hF ?hR ?hP ?h1 ?h2 ?hU ?_
  case hB => exact rfl
  case I => exact InstAt.of_news N hx hdx
  case hS => k_is
  case hF => k_is
  case hC => k_is
  case hR => k_is
  case hP => first | exact .inl rfl | exact .inr ⟨_, rfl⟩
  case h1 => k_is
  case h2 => k_is
  case hU => k_is
  refine wpAny_call ?_
  refine' code_def (K := (K3 w.params)) B ?k2 ?k3 ?k4 T ?kA hf hke ?k6 ?k7 ?k8 ?k9 ?kB ?_ ?c2 ?c3 ?c4 ?c5
  case kA => exact rfl
  case k2 => k_asm
  case k3 => k_asm
  case k4 => k_asm
  case k6 => k_is
  case k7 => k_is
  case k8 => (show d < _; omega)
  case k9 => first | exact BindsTo.of_eq rfl | exact binds_K (by k_in) rfl (by k_is) rfl rfl rfl
  case kB => exact locs rfl
  case c5 => decide
  case c2 => exact rfl
  case c3 => exact rfl
  case c4 => exact rfl
  intro g' L' h' FG' F' N' B' X' T'
  dsimp only
  try k_fold
  k_steps
  refine' h _ _ _ _ _ _ hs ?fa ?fb
  case fa => assumption
  case fb => assumption

set_option maxRecDepth 100000 in
set_option maxHeartbeats 8000000 in
theorem add_rr 
    (B : Below A₀ base outer h₀) (F : Fr h₀ L s.heap m) (N : News h₀ L s.heap news) (T : Top p loose mean mg mb h₀)
    (hf : env.frame = some L) (hke : env.scope.kind = .function) (hroom : d + 10 < recursionLimit)
    (hx : (x, ndO dx (.float mu t1) (.float sg t2)) ∈ news) (hdx : (dx, dictOf [] 0) ∈ news) (hy : (y, ndO dy (.float mu2 t3) (.float sg2 t4)) ∈ news) (hdy : (dy, dictOf [] 0) ∈ news)
    (hs : (Float64.cmp (PySem.Builtin.Math.vectorNorm [Float64.abs sg, Float64.abs sg2]) 0 == some Ordering.lt) = false)
    (h : ∀ (x' dx' : Addr) h' tk t1 t2, (Float64.cmp (PySem.Builtin.Math.vectorNorm [Float64.abs sg, Float64.abs sg2]) 0 == some Ordering.lt) = false → Fr h₀ L h' m → News h₀ L h' ((x', ndO dx' (.float (Float64.add mu mu2) t1) (.float (PySem.Builtin.Math.vectorNorm [Float64.abs sg, Float64.abs sg2]) t2)) :: (dx', dictOf [] 0) :: news) → Q (.ref x') { s with heap := h', toks := tk }) :
    (K3 w.params).In h₀ → wpAny (model PySem.Challenge.rw_oz0057_03.row.prog w) (AA d env outer gs u) (binaryOp .Add (.ref x) (.ref y)) Q E s := by
  k_fill
  intro X₀
  refine' binop_K (K := (K3 w.params)) (C := 270) F X₀ (InstAt.of_news N hx hdx) ?hb ?hC ?hS ?hF ?_
  case hb => exact InstAt.type (InstAt.of_news N hy hdy)
  case hC => k_is
  case hS => k_is
  case hF => k_is
  refine wpAny_call ?_
  refine' code_def (K := (K3 w.params)) B ?k2 ?k3 ?k4 T ?kA hf hke ?k6 ?k7 ?k8 ?k9 ?kB ?_ ?c2 ?c3 ?c4 ?c5
  case kA => exact rfl
  case k2 => k_asm
  case k3 => k_asm
  case k4 => k_asm
  case k6 => k_is
  case k7 => k_is
  case k8 => (show d < _; omega)
  case k9 => first | exact BindsTo.of_eq rfl | exact binds_K (by k_in) rfl (by k_is) rfl rfl rfl
  case kB => exact locs rfl
  case c5 => decide
  case c2 => exact rfl
  case c3 => exact rfl
  case c4 => exact rfl
  intro g' L' h' FG' F' N' B' X' T'
  dsimp only
  try k_fold
  k_steps
  refine' h _ _ _ _ _ _ hs ?fa ?fb
  case fa => assumption
  case fb => assumption

set_option maxRecDepth 100000 in
set_option maxHeartbeats 8000000 in
theorem sub_rr 
    (B : Below A₀ base outer h₀) (F : Fr h₀ L s.heap m) (N : News h₀ L s.heap news) (T : Top p loose mean mg mb h₀)
    (hf : env.frame = some L) (hke : env.scope.kind = .function) (hroom : d + 10 < recursionLimit)
    (hx : (x, ndO dx (.float mu t1) (.float sg t2)) ∈ news) (hdx : (dx, dictOf [] 0) ∈ news) (hy : (y, ndO dy (.float mu2 t3) (.float sg2 t4)) ∈ news) (hdy : (dy, dictOf [] 0) ∈ news)
    (hs : (Float64.cmp (PySem.Builtin.Math.vectorNorm [Float64.abs sg, Float64.abs sg2]) 0 == some Ordering.lt) = false)
    (h : ∀ (x' dx' : Addr) h' tk t1 t2, (Float64.cmp (PySem.Builtin.Math.vectorNorm [Float64.abs sg, Float64.abs sg2]) 0 == some Ordering.lt) = false → Fr h₀ L h' m → News h₀ L h' ((x', ndO dx' (.float (Float64.sub mu mu2) t1) (.float (PySem.Builtin.Math.vectorNorm [Float64.abs sg, Float64.abs sg2]) t2)) :: (dx', dictOf [] 0) :: news) → Q (.ref x') { s with heap := h', toks := tk }) :
    (K3 w.params).In h₀ → wpAny (model PySem.Challenge.rw_oz0057_03.row.prog w) (AA d env outer gs u) (binaryOp .Sub (.ref x) (.ref y)) Q E s := by
  k_fill
  intro X₀
  refine' binop_K (K := (K3 w.params)) (C := 270) F X₀ (InstAt.of_news N hx hdx) ?hb ?hC ?hS ?hF ?_
  case hb => exact InstAt.type (InstAt.of_news N hy hdy)
  case hC => k_is
  case hS => k_is
  case hF => k_is
  refine wpAny_call ?_
  refine' code_def (K := (K3 w.params)) B ?k2 ?k3 ?k4 T ?kA hf hke ?k6 ?k7 ?k8 ?k9 ?kB ?_ ?c2 ?c3 ?c4 ?c5
  case kA => exact rfl
  case k2 => k_asm
  case k3 => k_asm
  case k4 => k_asm
  case k6 => k_is
  case k7 => k_is
  case k8 => (show d < _; omega)
  case k9 => first | exact BindsTo.of_eq rfl | exact binds_K (by k_in) rfl (by k_is) rfl rfl rfl
  case kB => exact locs rfl
  case c5 => decide
  case c2 => exact rfl
  case c3 => exact rfl
  case c4 => exact rfl
  intro g' L' h' FG' F' N' B' X' T'
  dsimp only
  try k_fold
  k_steps
  refine' h _ _ _ _ _ _ hs ?fa ?fb
  case fa => assumption
  case fb => assumption

set_option maxRecDepth 100000 in
set_option maxHeartbeats 8000000 in
theorem eq_rr (B : Below A₀ base outer h₀) (F : Fr h₀ L s.heap m) (N : News h₀ L s.heap news) (T : Top p loose mean mg mb h₀)
    (hf : env.frame = some L) (hke : env.scope.kind = .function) (hroom : d + 10 < recursionLimit)
    (hx : (x, ndO dx (.float mu t1) (.float sg t2)) ∈ news) (hdx : (dx, dictOf [] 0) ∈ news) (hy : (y, ndO dy (.float mu2 t3) (.float sg2 t4)) ∈ news) (hdy : (dy, dictOf [] 0) ∈ news) (hu : u + 40 < cLine)
    (h : ∀ h' tk, Fr h₀ L h' m → News h₀ L h' news → Q (.bool (Float64.cmp mu mu2 == some Ordering.eq && Float64.cmp sg sg2 == some Ordering.eq)) { s with heap := h', toks := tk }) :
    (K3 w.params).In h₀ → wpAny (model PySem.Challenge.rw_oz0057_03.row.prog w) (AA d env outer gs u) (compareOp .Eq (.ref x) (.ref y)) Q E s := by
  k_fill
  intro X₀
  refine cmp_ofEq ?_
  refine' cmp_K (K := (K3 w.params)) (C := 270) ?hu F X₀ (InstAt.of_news N hx hdx) (InstAt.type (InstAt.of_news N hy hdy)) ?hn ?hS ?hF ?_
  case hu => (show u < _; omega)
  case hn => k_is
  case hS => k_is
  case hF => k_is
  refine wpAny_call ?_
  refine' code_def (K := (K3 w.params)) B ?k2 ?k3 ?k4 T ?kA hf hke ?k6 ?k7 ?k8 ?k9 ?kB ?_ ?c2 ?c3 ?c4 ?c5
  case kA => exact rfl
  case k2 => k_asm
  case k3 => k_asm
  case k4 => k_asm
  case k6 => k_is
  case k7 => k_is
  case k8 => (show d < _; omega)
  case k9 => first | exact BindsTo.of_eq rfl | exact binds_K (by k_in) rfl (by k_is) rfl rfl rfl
  case kB => exact locs rfl
  case c5 => decide
  case c2 => exact rfl
  case c3 => exact rfl
  case c4 => exact rfl
  intro g' L' h' FG' F' N' B' X' T'
  dsimp only
  try k_fold
  k_steps
  · rename (Float64.cmp mu mu2 == some Ordering.eq) = true => he
    rw [he, Bool.true_and] at h
    refine' h _ _ ?fa ?fb
    case fa => assumption
    case fb => assumption
  · rename (Float64.cmp mu mu2 == some Ordering.eq) = false => he
    rw [he]
    rw [he, Bool.false_and] at h
    refine' h _ _ ?fa ?fb
    case fa => assumption
    case fb => assumption

set_option maxRecDepth 100000 in
set_option maxHeartbeats 8000000 in
theorem ne_rr (B : Below A₀ base outer h₀) (F : Fr h₀ L s.heap m) (N : News h₀ L s.heap news) (T : Top p loose mean mg mb h₀)
    (hf : env.frame = some L) (hke : env.scope.kind = .function) (hroom : d + 10 < recursionLimit)
    (hx : (x, ndO dx (.float mu t1) (.float sg t2)) ∈ news) (hdx : (dx, dictOf [] 0) ∈ news) (hy : (y, ndO dy (.float mu2 t3) (.float sg2 t4)) ∈ news) (hdy : (dy, dictOf [] 0) ∈ news) (hu : u + 40 < cLine)
    (h : ∀ h' tk, Fr h₀ L h' m → News h₀ L h' news → Q (.bool (!(Float64.cmp mu mu2 == some Ordering.eq && Float64.cmp sg sg2 == some Ordering.eq))) { s with heap := h', toks := tk }) :
    (K3 w.params).In h₀ → wpAny (model PySem.Challenge.rw_oz0057_03.row.prog w) (AA d env outer gs u) (compareOp .NotEq (.ref x) (.ref y)) Q E s := by
  k_fill
  intro X₀
  have XS := X₀.keeps F.keep
  have Y : s.heap.OwnEqNoNe x 270 235 "object" [.type "object"] := by
    refine ⟨ndO dx (.float mu t1) (.float sg t2), _, _, _, _, _, _, _, _, _, _, _, _, _, _, _, _, _, _, some (.builtin "object.__eq__"), (N _ hx).1, rfl, XS 270 _ (by k_is), ⟨_, _, _, XS 269 _ (by k_is), rfl, ?_, fun _ => rfl⟩, ?_, XS 235 _ (by k_is), rfl, PySem.F.mro_object, (by rw [typeLookup_type, builtinLookup_eq_fast]; kernel_rfl), ?_⟩
    · exact strKeys_of rfl
    · rfl
    · rfl
  refine compareOp_ne_ownEq PySem.F.cmp_object Y (N _ hy).1 rfl (show u + 1 < _ by omega) ?_
  refine wpAny_call ?_
  refine' code_def (K := (K3 w.params)) B ?k2 ?k3 ?k4 T ?kA hf hke ?k6 ?k7 ?k8 ?k9 ?kB ?_ ?c2 ?c3 ?c4 ?c5
  case kA => exact rfl
  case k2 => k_asm
  case k3 => k_asm
  case k4 => k_asm
  case k6 => k_is
  case k7 => k_is
  case k8 => (show d < _; omega)
  case k9 => first | exact BindsTo.of_eq rfl | exact binds_K (by k_in) rfl (by k_is) rfl rfl rfl
  case kB => exact locs rfl
  case c5 => decide
  case c2 => exact rfl
  case c3 => exact rfl
  case c4 => exact rfl
  intro g' L' h' FG' F' N' B' X' T'
  dsimp only
  try k_fold
  k_steps
  · rename (Float64.cmp mu mu2 == some Ordering.eq) = true => he
    rw [he, Bool.true_and] at h
    refine' h _ _ ?fa ?fb
    case fa => assumption
    case fb => assumption
  · rename (Float64.cmp mu mu2 == some Ordering.eq) = false => he
    rw [he]
    rw [he, Bool.false_and] at h
    refine' h _ _ ?fa ?fb
    case fa => assumption
    case fb => assumption

set_option maxRecDepth 100000 in
set_option maxHeartbeats 8000000 in
theorem near_c (B : Below A₀ base outer h₀) (F : Fr h₀ L s.heap m) (N : News h₀ L s.heap news) (T : Top p loose mean mg mb h₀)
    (hf : env.frame = some L) (hke : env.scope.kind = .function) (hroom : d + 10 < recursionLimit) {z b : Int} {t tb : Tok} (hb : 0 < b)
    (h : ∀ v h' tk t', -b < v → v < b → Fr h₀ L h' m → News h₀ L h' news → Q (.int v t') { s with heap := h', toks := tk }) :
    (K3 w.params).In h₀ → wpAny (model PySem.Challenge.rw_oz0057_03.row.prog w) (AA d env outer gs u) (call (.ref 281) [.int z t, .int b tb] []) Q E s := by
  k_fill
  intro X₀
  refine wpAny_call ?_
  have f1 := Int.fmod_nonneg_of_pos z hb
  have f2 := Int.fmod_lt_of_pos z hb
  refine' code_def (K := (K3 w.params)) B ?k2 ?k3 ?k4 T ?kA hf hke ?k6 ?k7 ?k8 ?k9 ?kB ?_ ?c2 ?c3 ?c4 ?c5
  case kA => exact rfl
  case k2 => k_asm
  case k3 => k_asm
  case k4 => k_asm
  case k6 => k_is
  case k7 => k_is
  case k8 => (show d < _; omega)
  case k9 => first | exact BindsTo.of_eq rfl | exact binds_K (by k_in) rfl (by k_is) rfl rfl rfl
  case kB => exact locs rfl
  case c5 => decide
  case c2 => exact rfl
  case c3 => exact rfl
  case c4 => exact rfl
  intro g' L' h' FG' F' N' B' X' T'
  dsimp only
  try k_fold
  k_steps
  all_goals (refine' h _ _ _ _ ?fc ?fd ?fa ?fb; (case fa => assumption); (case fb => assumption); (case fc => omega); (case fd => omega))

end
end Mine

end CT3
section Loops
open PySem PySem.W PySem.Calls PyProof.Rows PySem.Spec
set_option Elab.async false
set_option linter.unusedVariables false
namespace Mine
section
variable {prog : Program} {w : World} {A : Around} {E : Value → Shared → Prop} {s : Shared} {env : Env} {h₀ : Heap} {target : Expr} {body : List Stmt} {Q : Flow → Shared → Prop}

/-- what a turn must leave: the invariant J, the iterator's object still there -/
def TEnd (h₀ : Heap) (L : Addr) (J : (Str → Option Value) → List (Addr × Obj) → Prop) (I : Addr) (oI : Obj) (s₁ : Shared) (s₂ : Shared) : Prop :=
  ∃ h' tk m' news' nx, s₂ = { s₁ with heap := h', toks := tk } ∧ Fr h₀ L h' m' ∧ News h₀ L h' news' ∧ (I, oI) ∈ news' ∧ (∀ p ∈ nx, p ∈ news') ∧ (∀ p ∈ nx, p.1 ≠ I) ∧ J m' nx
def TPost (h₀ : Heap) (L : Addr) (J : (Str → Option Value) → List (Addr × Obj) → Prop) (I : Addr) (oI : Obj) (s₁ : Shared) (Q : Flow → Shared → Prop) (f : Flow) (s₂ : Shared) : Prop :=
  match f with
  | .ret v => Q (.ret v) s₂
  | .brk => Q .next s₂
  | _ => TEnd h₀ L J I oI s₁ s₂
theorem TEnd.intro {L : Addr} {J : (Str → Option Value) → List (Addr × Obj) → Prop} {I : Addr} {oI : Obj} {s₁ : Shared} {h' : Heap} {tk : Nat} {m' : Str → Option Value} {news' nx : List (Addr × Obj)}
    (F : Fr h₀ L h' m') (N : News h₀ L h' news') (hI : (I, oI) ∈ news') (hn : ∀ p ∈ nx, p ∈ news') (ho : ∀ p ∈ nx, p.1 ≠ I) (hj : J m' nx) : TEnd h₀ L J I oI s₁ { s₁ with heap := h', toks := tk } :=
  ⟨h', tk, m', news', nx, rfl, F, N, hI, hn, ho, hj⟩

theorem news_sub {h₀ h : Heap} {L : Addr} {l l' : List (Addr × Obj)} (N : News h₀ L h l) (hs : ∀ p ∈ l', p ∈ l) : News h₀ L h l' := fun p hp => N p (hs p hp)

/-- for TARGET in a list of the ledger, by an invariant over names and ledger -/
theorem list_inv {ax : Addr} {lo : Obj} {vs : List Value} {k : Nat} {m₀ : Str → Option Value} {news : List (Addr × Obj)} (J : Nat → (Str → Option Value) → List (Addr × Obj) → Prop)
    (hh : A.handled = none) (F : Fr h₀ env.locals s.heap m₀) (N : News h₀ env.locals s.heap news) (hm : (ax, lo) ∈ news) (hc : lo.cls = .type "list") (hd : lo.data = .seq vs.toArray k)
    (hj : J 0 m₀ news) (hJ : ∀ i m nx, J i m nx → (ax, lo) ∈ nx)
    (turn : ∀ i v m₁ news₁ h tk I oI, vs[i]? = some v → J i m₁ news₁ → Fr h₀ env.locals h m₁ → News h₀ env.locals h ((I, oI) :: news₁) → (∀ p ∈ news₁, p.1 ≠ I) →
      wpAny (model prog w) A (assign target env v) (fun _ s₂ => wpAny (model prog w) A (execs body env) (TPost h₀ env.locals (J (i + 1)) I oI { s with heap := h, toks := tk } Q) E s₂) E { s with heap := h, toks := tk })
    (done : ∀ m₁ news₁ h tk, J vs.length m₁ news₁ → Fr h₀ env.locals h m₁ → News h₀ env.locals h news₁ → Q .next { s with heap := h, toks := tk }) :
    wpAny (model prog w) A (pyIter (.ref ax)) (fun it s₂ => TurnsAt prog w A h₀ env target body Q E it s₂) E s := by
  have hax := N _ hm
  have hl : s.heap.IsList ax vs.toArray := ⟨lo, hax.1, hc, k, hd⟩
  have hlt : ax < s.heap.objs.size := Heap.lt_size hax.1
  have hne : ax ≠ s.heap.objs.size := Nat.ne_of_lt hlt
  refine wpAny_pyIter_list hl ?_
  have W := KTurns.ofWalks (target := target) (Walks.list (prog := prog) (w := w) hh s.heap.objs.size ax hne vs.toArray) fun i v s Q E st q => letGo_listiter st.1 q
  have hnew := next_is_new F
  have hlen : vs.toArray.size = vs.length := List.size_toArray
  rw [hlen] at W
  refine ⟨s.heap.objs.size, _, _, vs.length, _, _, _, m₀, news, J, rfl, W, ?_, ?_, ?_, ⟨⟨_, Heap.get?_push_size _ rfl, rfl, rfl⟩, hl.at fun o e => Heap.get?_push_of_some _ e⟩, F.push _, (fun p hp => ⟨Heap.get?_push_of_some _ (N p hp).1, (N p hp).2⟩), hj, ?_, ?_⟩
  · intro hI
    rcases List.mem_cons.mp hI with e | hI
    · exact absurd F.ns.lt (e ▸ Nat.lt_irrefl _)
    · exact hax.2.1 (List.mem_singleton.mp hI).symm
  · intro b hb
    rw [List.mem_singleton.mp hb]
    exact hnew
  · intro p hp hI
    exact absurd (Heap.lt_size (N p hp).1) ((List.mem_singleton.mp hI) ▸ Nat.lt_irrefl _)
  · rintro i v m₁ news₁ h₁ tk₁ own hin hP hJ₁ hoff hown hget hall hst F₁ N₁
    obtain ⟨⟨oI, hoI, _, _⟩, hls⟩ := hst
    have hmem := hall s.heap.objs.size (by simp) hnew oI hoI
    have hv : vs[i]? = some v := by
      have hP' : vs.toArray[i]? = some v := hP
      simpa using hP'
    have hoff' : ∀ p ∈ news₁, p.1 ≠ s.heap.objs.size := fun p hp e => hoff p hp (by rw [e]; exact List.mem_singleton.mpr rfl)
    have N₂ : News h₀ env.locals h₁ ((s.heap.objs.size, oI) :: news₁) := fun p hp => by
      rcases List.mem_cons.mp hp with rfl | hp
      · exact N₁ _ (List.mem_append_left _ hmem)
      · exact N₁ _ (List.mem_append_right _ hp)
    refine wpAny_mono (turn i v m₁ news₁ h₁ tk₁ _ oI hv hJ₁ F₁ N₂ hoff') (fun _ s₂ h₂ => wpAny_mono h₂ (fun f s₃ p => ?_) fun _ _ e => e) fun _ _ e => e
    have fin : TEnd h₀ env.locals (J (i + 1)) s.heap.objs.size oI { s with heap := h₁, toks := tk₁ } s₃ → LoopStepU h₀ env.locals [s.heap.objs.size] own (J (i + 1)) { s with heap := h₁, toks := tk₁ } .next s₃ := by
      rintro ⟨h', tk, m', news', nx, e, F', N', hI, hn, ho, hj'⟩
      refine ⟨rfl, h', tk, m', nx, e, F', ?_, fun p hp hq => ho p hp (List.mem_singleton.mp hq), hj'⟩
      intro p hp
      rcases List.mem_append.mp hp with hp | hp
      · have h2 := hget p hp
        have h3 := hown p hp
        rcases List.mem_cons.mp h3 with h4 | h4
        · have : p = (s.heap.objs.size, oI) := by rw [h4, hoI] at h2; exact Prod.ext h4 (Option.some.inj h2).symm
          rw [this]; exact N' _ hI
        · have h5 := List.mem_singleton.mp h4
          have h6 := (N₁ _ (List.mem_append_right _ (hJ _ _ _ hJ₁))).1
          have : p = (ax, lo) := by
            rw [h5] at h2
            dsimp only at h6
            rw [h6] at h2
            exact Prod.ext h5 (Option.some.inj h2).symm
          rw [this]; exact N' _ (hn _ (hJ _ _ _ hj'))
      · exact N' p (hn p hp)
    cases f with
    | ret v => exact .ret p
    | brk => exact .brk p
    | next => exact .next (fin p)
    | cont => exact .cont (fin p)
  · intro h' tk m' news' F' N' _ hJ'
    exact done m' news' h' tk hJ' F' N'

/-- for NAME in a range, by an invariant over names and ledger -/
theorem range_inv {xn : Str} {px : Pos} {r : Addr} {a₀ b₀ : Int} {t₀ u₀ v₀ : Tok} {n : Nat} {m₀ : Str → Option Value} {news : List (Addr × Obj)} (J : Nat → (Str → Option Value) → List (Addr × Obj) → Prop)
    (hh : A.handled = none) (hr : IsRange s.heap r a₀ b₀ 1 t₀ u₀ v₀) (hsmall : Builtin.Range.small a₀ b₀ 1 = true) (hn : Builtin.Range.rangeSize a₀ b₀ 1 = (n : Int)) (F : Fr h₀ env.locals s.heap m₀) (N : News h₀ env.locals s.heap news)
    (hj : J 0 m₀ news)
    (turn : ∀ (i : Nat) t m₁ news₁ h tk I oI, i < n → J i m₁ news₁ → Fr h₀ env.locals h m₁ → News h₀ env.locals h ((I, oI) :: news₁) → (∀ p ∈ news₁, p.1 ≠ I) →
      wpAny (model prog w) A (assign (.Name xn px) env (.int (a₀ + (i : Int)) t)) (fun _ s₂ => wpAny (model prog w) A (execs body env) (TPost h₀ env.locals (J (i + 1)) I oI { s with heap := h, toks := tk } Q) E s₂) E { s with heap := h, toks := tk })
    (done : ∀ m₁ news₁ h tk, J n m₁ news₁ → Fr h₀ env.locals h m₁ → News h₀ env.locals h news₁ → Q .next { s with heap := h, toks := tk }) :
    wpAny (model prog w) A (pyIter (.ref r)) (fun it s₂ => TurnsAt prog w A h₀ env (.Name xn px) body Q E it s₂) E s := by
  refine wpAny_pyIter_range hr hsmall ?_
  have hnew := next_is_new F
  have W₀ : Walks prog w A s.heap.objs.size [s.heap.objs.size] [s.heap.objs.size] n (fun i v => i < n ∧ ∃ t, v = .int (a₀ + i * 1) t)
      (fun i h => IsRangeIter h s.heap.objs.size (a₀ + (i : Nat) * 1) ((n : Int) - (i : Nat)) 1) := (Walks.range hh _ a₀ 1 n).bound
  have W := KTurns.ofWalks (target := .Name xn px) W₀ fun i v s Q E st q => (by
    show wpAny _ _ (letOwnedTupleGo (.Name xn px) (.ref _) v) _ _ _
    exact wpAny_pure q)
  refine ⟨s.heap.objs.size, _, _, n, _, _, _, m₀, news, J, rfl, W, ?_, ?_, ?_, (by show IsRangeIter _ _ _ _ _; rw [hn]; simpa using Heap.get?_push_size _ rfl), F.push _, (fun p hp => ⟨Heap.get?_push_of_some _ (N p hp).1, (N p hp).2⟩), hj, ?_, ?_⟩
  · intro hI
    exact absurd F.ns.lt ((List.mem_singleton.mp hI) ▸ Nat.lt_irrefl _)
  · intro b hb
    rw [List.mem_singleton.mp hb]
    exact hnew
  · intro p hp hI
    exact absurd (Heap.lt_size (N p hp).1) ((List.mem_singleton.mp hI) ▸ Nat.lt_irrefl _)
  · rintro i v m₁ news₁ h₁ tk₁ own hin ⟨_, t, rfl⟩ hJ₁ hoff hown hget hall hst F₁ N₁
    obtain ⟨oI, hoI⟩ : ∃ oI, h₁.get? s.heap.objs.size = some oI := ⟨_, hst⟩
    have hmem := hall s.heap.objs.size (by simp) hnew oI hoI
    have hoff' : ∀ p ∈ news₁, p.1 ≠ s.heap.objs.size := fun p hp e => hoff p hp (by rw [e]; exact List.mem_singleton.mpr rfl)
    have N₂ : News h₀ env.locals h₁ ((s.heap.objs.size, oI) :: news₁) := fun p hp => by
      rcases List.mem_cons.mp hp with rfl | hp
      · exact N₁ _ (List.mem_append_left _ hmem)
      · exact N₁ _ (List.mem_append_right _ hp)
    have e1 : a₀ + (i : Int) * 1 = a₀ + (i : Int) := by omega
    rw [e1]
    refine wpAny_mono (turn i t m₁ news₁ h₁ tk₁ _ oI hin hJ₁ F₁ N₂ hoff') (fun _ s₂ h₂ => wpAny_mono h₂ (fun f s₃ p => ?_) fun _ _ e => e) fun _ _ e => e
    have fin : TEnd h₀ env.locals (J (i + 1)) s.heap.objs.size oI { s with heap := h₁, toks := tk₁ } s₃ → LoopStepU h₀ env.locals [s.heap.objs.size] own (J (i + 1)) { s with heap := h₁, toks := tk₁ } .next s₃ := by
      rintro ⟨h', tk, m', news', nx, e, F', N', hI, hn, ho, hj'⟩
      refine ⟨rfl, h', tk, m', nx, e, F', ?_, fun p hp hq => ho p hp (List.mem_singleton.mp hq), hj'⟩
      intro p hp
      rcases List.mem_append.mp hp with hp | hp
      · have h2 := hget p hp
        have h4 := List.mem_singleton.mp (hown p hp)
        have : p = (s.heap.objs.size, oI) := by rw [h4, hoI] at h2; exact Prod.ext h4 (Option.some.inj h2).symm
        rw [this]; exact N' _ hI
      · exact N' p (hn p hp)
    cases f with
    | ret v => exact .ret p
    | brk => exact .brk p
    | next => exact .next (fin p)
    | cont => exact .cont (fin p)
  · intro h' tk m' news' F' N' _ hJ'
    exact done m' news' h' tk hJ' F' N'

/-- the plain invariant: the names of `stored` forgotten, all else as it was, the ledger as it was -/
def Still (stored : List Str) (m₀ : Str → Option Value) (news : List (Addr × Obj)) (m : Str → Option Value) (nx : List (Addr × Obj)) : Prop :=
  nx = news ∧ ∀ y, stored.contains y = false → m y = m₀ y
theorem still_eq {stored : List Str} {m₀ m : Str → Option Value} (h : ∀ y, stored.contains y = false → m y = m₀ y) : m = fun y => if stored.contains y then m y else m₀ y := by
  funext y
  cases hy : stored.contains y with
  | true => simp
  | false => simpa using h y hy
theorem list_still {ax : Addr} {lo : Obj} {vs : List Value} {k : Nat} {m₀ : Str → Option Value} {news : List (Addr × Obj)} (stored : List Str)
    (hh : A.handled = none) (F : Fr h₀ env.locals s.heap m₀) (N : News h₀ env.locals s.heap news) (hm : (ax, lo) ∈ news) (hc : lo.cls = .type "list") (hd : lo.data = .seq vs.toArray k)
    (turn : ∀ v (u : Str → Option Value) h tk I oI, v ∈ vs → Fr h₀ env.locals h (fun y => if stored.contains y then u y else m₀ y) → News h₀ env.locals h ((I, oI) :: news) → (∀ p ∈ news, p.1 ≠ I) →
      wpAny (model prog w) A (assign target env v) (fun _ s₂ => wpAny (model prog w) A (execs body env) (TPost h₀ env.locals (Still stored m₀ news) I oI { s with heap := h, toks := tk } Q) E s₂) E { s with heap := h, toks := tk })
    (done : ∀ (u : Str → Option Value) h tk, Fr h₀ env.locals h (fun y => if stored.contains y then u y else m₀ y) → News h₀ env.locals h news → Q .next { s with heap := h, toks := tk }) :
    wpAny (model prog w) A (pyIter (.ref ax)) (fun it s₂ => TurnsAt prog w A h₀ env target body Q E it s₂) E s := by
  refine list_inv (fun _ => Still stored m₀ news) hh F N hm hc hd ⟨rfl, fun _ _ => rfl⟩ (fun _ _ _ h => h.1 ▸ hm) ?_ ?_
  · rintro i v m₁ news₁ h tk I oI hv ⟨rfl, hm₁⟩ F₁ N₁ ho
    rw [still_eq hm₁] at F₁
    exact turn v m₁ h tk I oI (List.mem_of_getElem? hv) F₁ N₁ ho
  · rintro m₁ news₁ h tk ⟨rfl, hm₁⟩ F₁ N₁
    rw [still_eq hm₁] at F₁
    exact done m₁ h tk F₁ N₁

/-- the outer loop over range(len(row)): the row's list and one cell stand in the ledger, the name row is kept, all other names are forgotten -/
def RowJ (rn : Str) (D : Addr) (o1 : Obj) (c : Addr) (m : Str → Option Value) (nx : List (Addr × Obj)) : Prop :=
  ∃ (u : Str → Option Value) (oc : Obj) (v : Option Value), m = (fun y => if y = rn then some (.ref D) else u y) ∧ nx = [(D, o1), (c, oc)] ∧ oc.data = .cell v
theorem rowJ_intro {rn : Str} {D c : Addr} {o1 oc : Obj} {m : Str → Option Value} {v : Option Value} (hm : m rn = some (.ref D)) (hc : oc.data = .cell v) : RowJ rn D o1 c m [(D, o1), (c, oc)] :=
  ⟨m, oc, v, by funext y; by_cases h : y = rn <;> simp [h, hm], rfl, hc⟩
theorem range_row {rn xn : Str} {px : Pos} {r D c l : Addr} {o1 o2 oc₀ : Obj} {v₀' : Option Value} {a₀ b₀ : Int} {t₀ u₀ v₀ : Tok} {n : Nat} {m₀ : Str → Option Value}
    (hh : A.handled = none) (hr : IsRange s.heap r a₀ b₀ 1 t₀ u₀ v₀) (hsmall : Builtin.Range.small a₀ b₀ 1 = true) (hn : Builtin.Range.rangeSize a₀ b₀ 1 = (n : Int)) (F : Fr h₀ env.locals s.heap m₀)
    (N : News h₀ env.locals s.heap [(D, o1), (l, o2), (c, oc₀)]) (hrow : m₀ rn = some (.ref D)) (hoc : oc₀.data = .cell v₀')
    (turn : ∀ (i : Nat) t (u : Str → Option Value) h tk I oI oc v, i < n → oc.data = .cell v → Fr h₀ env.locals h (fun y => if y = rn then some (.ref D) else u y) → News h₀ env.locals h [(I, oI), (D, o1), (c, oc)] → I ≠ D → I ≠ c →
      wpAny (model prog w) A (assign (.Name xn px) env (.int (a₀ + (i : Int)) t)) (fun _ s₂ => wpAny (model prog w) A (execs body env) (TPost h₀ env.locals (RowJ rn D o1 c) I oI { s with heap := h, toks := tk } Q) E s₂) E { s with heap := h, toks := tk })
    (done : ∀ (u : Str → Option Value) h tk oc, Fr h₀ env.locals h (fun y => if y = rn then some (.ref D) else u y) → News h₀ env.locals h [(D, o1), (c, oc)] → Q .next { s with heap := h, toks := tk }) :
    wpAny (model prog w) A (pyIter (.ref r)) (fun it s₂ => TurnsAt prog w A h₀ env (.Name xn px) body Q E it s₂) E s := by
  have N' : News h₀ env.locals s.heap [(D, o1), (c, oc₀)] := news_sub N (by simp)
  refine range_inv (fun _ => RowJ rn D o1 c) hh hr hsmall hn F N' (rowJ_intro hrow hoc) ?_ ?_
  · rintro i t m₁ news₁ h tk I oI hi ⟨u, oc, v, rfl, rfl, hd⟩ F₁ N₁ ho
    exact turn i t u h tk I oI oc v hi hd F₁ N₁ (fun e => ho (D, o1) (by simp) e.symm) (fun e => ho (c, oc) (by simp) e.symm)
  · rintro m₁ news₁ h tk ⟨u, oc, v, rfl, rfl, hd⟩ F₁ N₁
    exact done u h tk oc F₁ N₁

/-- an item of a list of ints, at an index in bounds: some int -/
theorem item_any {value slice : PySem.Expr} {L : Addr} {news : List (Addr × Obj)} {D : Addr} {ws : List Value} {ns : List Int} {k : Int} {kn : Nat} {t : Tok} {Q : Value → Shared → Prop} (N : News h₀ L s.heap news) (hm : (D, W.listOf ws.toArray kn) ∈ news) (hI : IntsAre ws ns)
    (hlo : -(ns.length : Int) ≤ k) (hhi : k < (ns.length : Int)) (hsz : ns.length < 2 ^ 62) (h : ∀ v t, Q (.int v t) s)
    (hs : subscripted slice false (.ref D) (.int k t) = operate [.ref D, .int k t] (getItem (.ref D) (.int k t)) := by with_unfolding_all rfl) :
    wpAny (model prog w) A (subscriptTail value slice (.ref D) (.int k t)) Q E s := by
  have hl : s.heap.IsList D ws.toArray := ⟨_, (N _ hm).1, rfl, kn, rfl⟩
  have hlen : ws.toArray.size = ns.length := by simp [hI.length]
  by_cases h0 : 0 ≤ k
  · have hlt : k.toNat < ns.length := by omega
    obtain ⟨t', hx⟩ := hI.get k.toNat ns[k.toNat] (by simp [hlt])
    exact tail_any hl.typeIs slot_list_getitem.lookup (wpAny_getItem_list hl h0 (by omega) (by simpa using hx) (h _ _)) hs
  · have hlt : (k + ns.length).toNat < ns.length := by omega
    obtain ⟨t', hx⟩ := hI.get (k + ns.length).toNat ns[(k + ns.length).toNat] (by simp [hlt])
    exact tail_any hl.typeIs slot_list_getitem.lookup (wpAny_getItem_list_neg hl (by omega) (by rw [hlen]; exact hlo) (by omega) (by rw [hlen]; simpa using hx) (h _ _)) hs
end
end Mine
namespace Mine
open PyProof.Rows.LCg
def SrcT (ax : Addr) (its : Array Value) (news : List (Addr × Obj)) : Prop := ∃ o, (ax, o) ∈ news ∧ o.cls = .type "tuple" ∧ ∃ n, o.data = .seq its n
section
variable {prog : Program} {w : World} {A : Around} {E : Value → Shared → Prop} {s : Shared} {env : Env} {h₀ : Heap} {L : Addr} {m : Str → Option Value}
def CompSrcT (prog : Program) (w : World) (A : Around) (h₀ : Heap) (L : Addr) (m : Str → Option Value) (env : Env) (elt : PySem.Expr) (x : Str) (scope : Scope) (cl : List (Str × Addr)) (Fin : Shared → List Value → List (Addr × Obj) → Prop) (xv : Value) (s₁ : Shared) : Prop :=
  ∃ ax its news, xv = .ref ax ∧ A.handled = none ∧ Fr h₀ L s₁.heap m ∧ News h₀ L s₁.heap news ∧ SrcT ax its news ∧ its.size ≤ sizeLine ∧
    ∀ s₂ : Shared, (∃ h, s₂ = { s₁ with heap := h }) → CompRest prog w A h₀ L m env elt x scope cl s₂ (SrcT ax its) (fun i v => its[i]? = some v) (Fin s₂) its.size 0 [] news
theorem SrcT.tup {h : Heap} {ax : Addr} {its : Array Value} {news : List (Addr × Obj)} (x : SrcT ax its news) (N : News h₀ L h news) : h.IsTuple ax its := by
  obtain ⟨o, hm, r⟩ := x
  exact ⟨o, (N _ hm).1, r⟩
theorem CompSrcT.ledger {elt : PySem.Expr} {x : Str} {scope : Scope} {cl : List (Str × Addr)} {Fin : Shared → List Value → List (Addr × Obj) → Prop} {ax : Addr} {its : Array Value} {k : Nat} {news : List (Addr × Obj)} {s₁ : Shared}
    (hh : A.handled = none) (F : Fr h₀ L s₁.heap m) (N : News h₀ L s₁.heap news) (hm : (ax, ({ cls := .type "tuple", data := .seq its k } : Obj)) ∈ news) (hsz : its.size ≤ sizeLine)
    (h : ∀ g, CompRest prog w A h₀ L m env elt x scope cl { s₁ with heap := g } (SrcT ax its) (fun i v => its[i]? = some v) (Fin { s₁ with heap := g }) its.size 0 [] news) :
    CompSrcT prog w A h₀ L m env elt x scope cl Fin (.ref ax) s₁ := ⟨ax, its, news, rfl, hh, F, N, ⟨_, hm, rfl, _, rfl⟩, hsz, fun _ ⟨g, e⟩ => e ▸ h g⟩
theorem ListComp_Ut {elt iter : PySem.Expr} {x : Str} {px : Pos} {scope : Scope} {cl : List (Str × Addr)} {pos : Pos} {Q : Value → Shared → Prop} (F₀ : Fr h₀ L s.heap m)
    (hclos : closureFor scope env = pure cl) (hcell : ∀ y ∈ scope.names, y.2 ≠ .cell) (hkind : scope.kind = .function)
    (hnames : ∀ y ∈ scope.names, y.2 = .local → scope.names.lookup y.1 = some .local) (hx : scope.names.lookup x = some .local)
    (h : wpAny (model prog w) A (eval iter env) (CompSrcT prog w A h₀ L m env elt x scope cl (fun s₂ => FinE h₀ L m s₂ Q)) E s)
    (hs : ∀ x, foldedSetIterable iter env x = pure x := by intro _; rfl) :
    wpAny (model prog w) A (eval (.ListComp elt [⟨.Name x px, iter, [], 0⟩] scope pos) env) Q E s := by
  rw [eval_ListComp]
  refine wpAny_comprehension_free (use := none) rfl hs hclos hkind hnames (wpAny_mono h (fun xv s₁ h₁ => ?_) fun _ _ e => e)
  obtain ⟨ax, its, news, rfl, hh, F, N, S, hsz, R⟩ := h₁
  have hl := S.tup N
  have hlt : ax < s₁.heap.objs.size := by obtain ⟨_, e, _⟩ := hl; exact Heap.lt_size e
  refine wpAny_pyIter_tuple hl ?_
  have up : ∀ b o, s₁.heap.get? b = some o → (s₁.heap.push { cls := .type "tuple_iterator", data := .fields #[.ref ax, .int 0 0] }).get? b = some o := fun b o e => Heap.get?_push_of_some _ e
  refine block_U (Walks.tuple hh s₁.heap.objs.size ax (Nat.ne_of_lt hlt) its) hsz (fun i h st => by obtain ⟨o, e, _⟩ := st.1; exact ⟨o, e⟩)
    (fun i h h' o nw st e e' _ N S => ⟨by obtain ⟨o', q, r⟩ := st.1; rw [e] at q; cases q; exact ⟨o, e', r⟩, S.tup N⟩) hcell hkind hx ⟨⟨_, Heap.get?_push_size _ rfl, rfl, rfl⟩, hl.at fun o e => Heap.get?_push_of_some _ e⟩ (fun b hb => ?_)
    (F.keeps up) (N.grown up) (Nat.ne_of_lt F.ns.lt) (next_is_new F) (fun p hp => Nat.ne_of_lt (Heap.lt_size (N p hp).1)) S (R _ ⟨_, rfl⟩) ?_
  · show b < (s₁.heap.push _).objs.size
    rw [Heap.size_push]
    rcases List.mem_cons.mp hb with rfl | hb
    · exact Nat.lt_succ_self _
    · rw [List.mem_singleton.mp hb]; exact Nat.lt_succ_of_lt hlt
  · intro D C h tk m' ys news' F' N' o1 hn hC₀ hD₀ hCL hDL hCD offC fin
    refine ⟨m', hn, fun h'' hs'' => fin D h'' tk (F'.change hs'' hCL hC₀) (fun p hp => ?_) o1⟩
    refine ⟨hs''.extBut _ _ ?_ (N' p hp).1, (N' p hp).2⟩
    rcases List.mem_cons.mp hp with rfl | hp
    · exact Ne.symm hCD
    · exact offC p hp
end
end Mine
namespace Mine
def keepB : List Bool → List (Addr × Obj) → List (Addr × Obj)
  | true :: bs, p :: r => p :: keepB bs r
  | false :: bs, _ :: r => keepB bs r
  | _, _ => []
theorem keepB_sub : ∀ (bs : List Bool) (l : List (Addr × Obj)), ∀ p ∈ keepB bs l, p ∈ l
  | true :: bs, q :: r, p, h => by
    simp only [keepB, List.mem_cons] at h ⊢
    rcases h with h | h
    · exact .inl h
    · exact .inr (keepB_sub bs r p h)
  | false :: bs, q :: r, p, h => by
    simp only [keepB, List.mem_cons] at h ⊢
    exact .inr (keepB_sub bs r p h)
  | true :: _, [], _, h => by simp [keepB] at h
  | false :: _, [], _, h => by simp [keepB] at h
  | [], _, _, h => by simp [keepB] at h
theorem news_keep {h₀ h : Heap} {L : Addr} {l : List (Addr × Obj)} (N : News h₀ L h l) (bs : List Bool) : News h₀ L h (keepB bs l) := news_sub N (keepB_sub bs l)
abbrev tupO (v1 v2 : Value) : Obj := { cls := .type "tuple", data := .seq [v1, v2].toArray }
def PairAt (news : List (Addr × Obj)) (P : Int → Int → Prop) (v : Value) : Prop := ∃ (T : Addr) (a b : Int) (ta tb : Tok), v = .ref T ∧ (T, tupO (.int a ta) (.int b tb)) ∈ news ∧ P a b
theorem pick3 {h₀ h : Heap} {L : Addr} {news : List (Addr × Obj)} {P : Int → Int → Prop} {v v1 v2 v3 : Value} (N : News h₀ L h news) (hv : v ∈ [v1, v2, v3]) (h1 : PairAt news P v1) (h2 : PairAt news P v2) (h3 : PairAt news P v3) :
    ∃ (T : Addr) (a b : Int) (ta tb : Tok), v = .ref T ∧ P a b ∧ News h₀ L h ((T, tupO (.int a ta) (.int b tb)) :: news) := by
  have : PairAt news P v := by
    simp only [List.mem_cons, List.not_mem_nil, or_false] at hv
    rcases hv with rfl | rfl | rfl <;> assumption
  obtain ⟨T, a, b, ta, tb, e, hm, hp⟩ := this
  refine ⟨T, a, b, ta, tb, e, hp, fun p hp => ?_⟩
  rcases List.mem_cons.mp hp with rfl | hp
  · exact N _ hm
  · exact N p hp
def IntAt (P : Int → Prop) (v : Value) : Prop := ∃ a t, v = .int a t ∧ P a
theorem pick_int {P : Int → Prop} {v : Value} {vs : List Value} (hv : v ∈ vs) (h : ∀ x ∈ vs, IntAt P x) : ∃ a t, v = .int a t ∧ P a := h v hv
theorem TEnd.still {h₀ : Heap} {L : Addr} {I : Addr} {oI : Obj} {s₁ : Shared} {stored : List Str} {m₀ : Str → Option Value} {news : List (Addr × Obj)} {h' : Heap} {tk : Nat} {m' : Str → Option Value} {news' : List (Addr × Obj)}
    (F : Fr h₀ L h' m') (N : News h₀ L h' news') (ho : ∀ p ∈ news, p.1 ≠ I) (hI : (I, oI) ∈ news') (hn : ∀ p ∈ news, p ∈ news') (hm : ∀ y, stored.contains y = false → m' y = m₀ y) :
    TEnd h₀ L (Still stored m₀ news) I oI s₁ { s₁ with heap := h', toks := tk } := TEnd.intro F N hI hn ho ⟨rfl, hm⟩
end Mine
namespace Mine
theorem still_if {stored : List Str} {x : Str} {v : Option Value} {m m₀ : Str → Option Value} (hx : stored.contains x = true) (h : ∀ y, stored.contains y = false → m y = m₀ y) :
    ∀ y, stored.contains y = false → (if y = x then v else m y) = m₀ y := by
  intro y hy
  rw [if_neg (by rintro rfl; rw [hx] at hy; cases hy)]
  exact h y hy
theorem still_sub {stored st : List Str} {u m m₀ : Str → Option Value} (hs : st.all (stored.contains ·) = true) (h : ∀ y, stored.contains y = false → m y = m₀ y) :
    ∀ y, stored.contains y = false → (if st.contains y then u y else m y) = m₀ y := by
  intro y hy
  cases hc : st.contains y with
  | true =>
    have h2 := List.all_eq_true.mp hs y (by simpa using hc)
    rw [hy] at h2; cases h2
  | false => simpa using h y hy
theorem still_refl {stored : List Str} {m₀ : Str → Option Value} : ∀ y, stored.contains y = false → m₀ y = m₀ y := fun _ _ => rfl
end Mine

end Loops
section FL
open PySem PySem.W PySem.Calls PyProof.Rows
open PySem.Builtin.Math (vectorNorm)
set_option linter.unusedVariables false
namespace Mine
open PySem.Float64 (V Right dist infMag pack decode val sgn)

def Fv (x : UInt64) (v : Int) : Prop := ∃ s m e, Float64.decode x = .fin s m e ∧ Float64.val x = v
def Dy (x : UInt64) (n : Int) (k : Nat) : Prop := Fv x (n * 2 ^ k)
abbrev NN (x : UInt64) : Prop := (Float64.cmp x 0 == some Ordering.lt) = false

theorem repr_V : ∀ (j q : Nat), q < 2 ^ 53 → j ≤ 2045 → ∃ t, t < infMag ∧ V t = q * 2 ^ j
  | 0, q, hq, _ => by
    refine ⟨q, by unfold infMag; omega, ?_⟩
    have := Float64.V_at (k := 0) (q := q) (by omega) (.inr rfl)
    simpa using this
  | j + 1, q, hq, hj => by
    by_cases h : 2 ^ 52 ≤ q
    · refine ⟨(j + 1) * 2 ^ 52 + q, ?_, Float64.V_at (by omega) (.inl h)⟩
      unfold infMag
      have : (j + 1) * 2 ^ 52 ≤ 2045 * 2 ^ 52 := Nat.mul_le_mul_right _ hj
      omega
    · obtain ⟨t, ht, hV⟩ := repr_V j (2 * q) (by omega) (by omega)
      refine ⟨t, ht, ?_⟩
      have e3 : (2 : Nat) ^ (j + 1) = 2 ^ j * 2 := Nat.pow_succ _ _
      rw [hV, e3]
      generalize (2 : Nat) ^ j = z
      rw [Nat.mul_comm z 2, ← Nat.mul_assoc, Nat.mul_comm 2 q]
theorem repr_V' (j q : Nat) (hq : q ≤ 2 ^ 53) (hj : j ≤ 2044) : ∃ t, t < infMag ∧ V t = q * 2 ^ j := by
  by_cases h : q < 2 ^ 53
  · exact repr_V j q h (by omega)
  · have e : q = 2 ^ 53 := by omega
    obtain ⟨t, ht, hV⟩ := repr_V (j + 1) (2 ^ 52) (by decide) (by omega)
    refine ⟨t, ht, ?_⟩
    have e3 : (2 : Nat) ^ (j + 1) = 2 ^ j * 2 := Nat.pow_succ _ _
    rw [hV, e, e3]
    generalize (2 : Nat) ^ j = z
    omega
theorem V_lt_top {q j : Nat} (hq : q ≤ 2 ^ 53 - 1) (hj : j ≤ 2045) : q * 2 ^ j ≤ (2 ^ 53 - 1) * 2 ^ 2045 := Nat.mul_le_mul hq (Nat.pow_le_pow_right (by decide) hj)
theorem not_over {D W q j : Nat} (hD : 0 < D) (hW : W ≤ D * (q * 2 ^ j)) (hq : q ≤ 2 ^ 53 - 1) (hj : j ≤ 2045) : ¬ D * ((2 ^ 54 - 1) * 2 ^ 2045) ≤ 2 * W := by
  intro h
  have h1 := V_lt_top hq hj
  have h2 : D * (q * 2 ^ j) ≤ D * ((2 ^ 53 - 1) * 2 ^ 2045) := Nat.mul_le_mul_left D h1
  have h3 : (0 : Nat) < 2 ^ 2045 := Nat.two_pow_pos _
  have h4 : D * ((2 ^ 54 - 1) * 2 ^ 2045) = 2 * (D * ((2 ^ 53 - 1) * 2 ^ 2045)) + D * 2 ^ 2045 := by
    generalize (2 : Nat) ^ 2045 = Z
    have : (2 ^ 54 - 1) * Z = 2 * ((2 ^ 53 - 1) * Z) + Z := by omega
    rw [this, Nat.mul_add, Nat.mul_left_comm]
  have h5 : 0 < D * 2 ^ 2045 := Nat.mul_pos hD h3
  omega
theorem right_exact {r : UInt64} {neg : Bool} {W D q j : Nat} (h : Right r neg W D) (hD : 0 < D) (hW : W = D * (q * 2 ^ j)) (hq : q < 2 ^ 53) (hj : j ≤ 2045) :
    ∃ t, r = pack neg t ∧ t < infMag ∧ V t = q * 2 ^ j := by
  obtain ⟨t, rfl, ht, hov, hn⟩ := h
  obtain ⟨t0, ht0, hV0⟩ := repr_V j q hq hj
  have hlt : t < infMag := by
    refine Nat.lt_of_le_of_ne ht fun e => not_over (q := q) (j := j) hD (Nat.le_of_eq hW) (by omega) hj (hov.mp e)
  refine ⟨t, rfl, hlt, ?_⟩
  have h1 := (hn hlt t0).1
  rw [hV0, hW] at h1
  have h2 : dist (D * (q * 2 ^ j)) (D * (q * 2 ^ j)) = 0 := by unfold dist; omega
  rw [h2] at h1
  unfold dist at h1
  exact Nat.eq_of_mul_eq_mul_left hD (by omega)
theorem right_err {r : UInt64} {neg : Bool} {W D P : Nat} (h : Right r neg W D) (hD : 0 < D) (hP : 53 ≤ P) (hP2 : P ≤ 2097) (hW : W ≤ D * 2 ^ P) :
    ∃ t, r = pack neg t ∧ t < infMag ∧ 2 * dist W (D * V t) ≤ D * 2 ^ (P - 53) := by
  obtain ⟨t, rfl, ht, hov, hn⟩ := h
  obtain ⟨j, hj⟩ : ∃ j, P = 53 + j := ⟨P - 53, by omega⟩
  subst hj
  have e2 : 53 + j - 53 = j := by omega
  rw [e2]
  rw [Nat.pow_add] at hW
  have hlt : t < infMag := by
    refine Nat.lt_of_le_of_ne ht fun e => ?_
    refine not_over (W := W) (q := 2 ^ 52) (j := j + 1) hD ?_ (by decide) (by omega) (hov.mp e)
    refine Nat.le_trans hW (Nat.le_of_eq ?_)
    have e3 : (2 : Nat) ^ (j + 1) = 2 ^ j * 2 := Nat.pow_succ _ _
    rw [e3]
    generalize (2 : Nat) ^ j = z
    congr 1
    omega
  refine ⟨t, rfl, hlt, ?_⟩
  have hN : 0 < D * 2 ^ j := Nat.mul_pos hD (Nat.two_pow_pos j)
  have hdm := Nat.div_add_mod W (D * 2 ^ j)
  have hmod := Nat.mod_lt W hN
  have hq : W / (D * 2 ^ j) ≤ 2 ^ 53 := by
    refine Nat.div_le_of_le_mul ?_
    refine Nat.le_trans hW (Nat.le_of_eq ?_)
    ac_rfl
  generalize hQ : W / (D * 2 ^ j) = Q at *
  generalize hR : W % (D * 2 ^ j) = R at *
  have hDQ : D * (Q * 2 ^ j) = D * 2 ^ j * Q := by ac_rfl
  by_cases hr : 2 * R ≤ D * 2 ^ j
  · obtain ⟨t0, ht0, hV0⟩ := repr_V' j Q hq (by omega)
    have h1 := (hn hlt t0).1
    rw [hV0, hDQ] at h1
    unfold dist at *
    omega
  · have hQ2 : Q + 1 ≤ 2 ^ 53 := by
      rcases Nat.lt_or_ge Q (2 ^ 53) with h | h
      · omega
      · have : Q = 2 ^ 53 := by omega
        subst this
        have : D * 2 ^ j * 2 ^ 53 = D * (2 ^ 53 * 2 ^ j) := by ac_rfl
        omega
    obtain ⟨t0, ht0, hV0⟩ := repr_V' j (Q + 1) hQ2 (by omega)
    have h1 := (hn hlt t0).1
    have hDQ1 : D * ((Q + 1) * 2 ^ j) = D * 2 ^ j * Q + D * 2 ^ j := by rw [Nat.add_mul, Nat.one_mul, Nat.mul_add, hDQ]
    rw [hV0, hDQ1] at h1
    unfold dist at *
    omega
theorem fv_pack (neg : Bool) {t : Nat} (h : t < infMag) : Fv (pack neg t) (sgn neg (V t)) := by
  obtain ⟨m, e, hd, _⟩ := Float64.decode_pack neg h
  exact ⟨_, _, _, hd, Float64.val_pack neg h⟩
theorem fv_zero (b : Bool) : Fv (Float64.zero b) 0 := by
  have := fv_pack b (t := 0) (by decide)
  have e : sgn b (V 0) = 0 := by cases b <;> decide
  rw [e] at this
  exact this
theorem fv_zero' : Fv 0 0 := fv_zero false
theorem sgn_eq (neg : Bool) (n : Nat) : sgn neg n = if neg then -(n : Int) else n := by cases neg <;> rfl
theorem fv_form {x : UInt64} {v : Int} (h : Fv x v) : ∃ q k, v.natAbs = q * 2 ^ k ∧ q < 2 ^ 53 ∧ k ≤ 2045 := by
  obtain ⟨s, m, e, hd, rfl⟩ := h
  have := Float64.decode_le hd
  exact ⟨m, (e + 1074).toNat, Float64.val_natAbs hd, this.1, by omega⟩
theorem fv_uniq {x : UInt64} {v w : Int} (h : Fv x v) (h' : Fv x w) : v = w := by
  obtain ⟨_, _, _, _, rfl⟩ := h
  obtain ⟨_, _, _, _, rfl⟩ := h'
  rfl
theorem add_exact {x y : UInt64} {a b : Int} {q j : Nat} (hx : Fv x a) (hy : Fv y b) (hs : (a + b).natAbs = q * 2 ^ j) (hq : q < 2 ^ 53) (hj : j ≤ 2045) : Fv (Float64.add x y) (a + b) := by
  obtain ⟨s, m, e, hd, rfl⟩ := hx
  obtain ⟨s', m', e', hd', rfl⟩ := hy
  obtain ⟨h0, h1⟩ := Float64.add_right hd hd'
  by_cases hz : val x + val y = 0
  · rw [h0 hz, hz]; exact fv_zero _
  · obtain ⟨t, ht, hlt, hV⟩ := right_exact (h1 hz) (by decide) (by rw [hs, Nat.one_mul]) hq hj
    rw [ht]
    have := fv_pack (decide (val x + val y < 0)) hlt
    rw [hV, ← hs] at this
    have e2 : sgn (decide (val x + val y < 0)) (val x + val y).natAbs = val x + val y := by
      rw [sgn_eq]
      by_cases hn : val x + val y < 0
      · rw [decide_eq_true hn, if_pos rfl]; omega
      · rw [decide_eq_false hn, if_neg (by decide)]; omega
    rw [e2] at this
    exact this
theorem add_err {x y : UInt64} {a b : Int} {P : Nat} (hx : Fv x a) (hy : Fv y b) (hP : 53 ≤ P) (hP2 : P ≤ 2097) (hs : (a + b).natAbs ≤ 2 ^ P) :
    ∃ v, Fv (Float64.add x y) v ∧ 2 * (v - (a + b)).natAbs ≤ 2 ^ (P - 53) := by
  obtain ⟨s, m, e, hd, rfl⟩ := hx
  obtain ⟨s', m', e', hd', rfl⟩ := hy
  obtain ⟨h0, h1⟩ := Float64.add_right hd hd'
  by_cases hz : val x + val y = 0
  · refine ⟨0, ?_, ?_⟩
    · rw [h0 hz]; exact fv_zero _
    · rw [hz]; exact Nat.zero_le _
  · obtain ⟨t, ht, hlt, hV⟩ := right_err (h1 hz) (by decide) hP hP2 (by rw [Nat.one_mul]; exact hs)
    refine ⟨sgn (decide (val x + val y < 0)) (V t), ?_, ?_⟩
    · rw [ht]; exact fv_pack _ hlt
    · rw [Nat.one_mul, Nat.one_mul] at hV
      rw [sgn_eq]
      unfold dist at hV
      generalize val x + val y = w at *
      by_cases hn : w < 0
      · rw [decide_eq_true hn, if_pos rfl]; omega
      · rw [decide_eq_false hn, if_neg (by decide)]; omega
theorem mul_val {a b : Bool} {m k : Nat} : sgn a m * sgn b k = sgn (a != b) (m * k) := by
  cases a <;> cases b <;> simp [sgn_eq, Int.natCast_mul, Int.neg_mul, Int.mul_neg]
theorem val_sgn {x : UInt64} {s : Bool} {m : Nat} {e : Int} (h : Float64.decode x = .fin s m e) : val x = sgn s (val x).natAbs := by
  rw [Float64.val_natAbs h, Float64.val_eq h]
theorem mul_exact {x y : UInt64} {a b : Int} {q j : Nat} (hx : Fv x a) (hy : Fv y b) (hs : (a * b).natAbs = 2 ^ 1074 * (q * 2 ^ j)) (hq : q < 2 ^ 53) (hj : j ≤ 2045) : ∃ v, Fv (Float64.mul x y) v ∧ v * 2 ^ 1074 = a * b := by
  obtain ⟨s, m, e, hd, rfl⟩ := hx
  obtain ⟨s', m', e', hd', rfl⟩ := hy
  have h := Float64.mul_right hd hd'
  rw [Int.natAbs_mul] at hs
  obtain ⟨t, ht, hlt, hV⟩ := right_exact h (Nat.two_pow_pos _) hs hq hj
  refine ⟨sgn (s != s') (V t), ?_, ?_⟩
  · rw [ht]; exact fv_pack _ hlt
  · rw [val_sgn hd, val_sgn hd', mul_val, hs, hV]
    have : ((2 : Int) ^ 1074) = ((2 ^ 1074 : Nat) : Int) := by simp
    rw [this, ← Float64.sgn_mul, Nat.mul_comm]
theorem mul_err {x y : UInt64} {a b : Int} {P : Nat} (hx : Fv x a) (hy : Fv y b) (hP : 53 ≤ P) (hP2 : P ≤ 2097) (hs : (a * b).natAbs ≤ 2 ^ 1074 * 2 ^ P) :
    ∃ v, Fv (Float64.mul x y) v ∧ 2 * (v * 2 ^ 1074 - a * b).natAbs ≤ 2 ^ 1074 * 2 ^ (P - 53) := by
  obtain ⟨s, m, e, hd, rfl⟩ := hx
  obtain ⟨s', m', e', hd', rfl⟩ := hy
  have h := Float64.mul_right hd hd'
  rw [Int.natAbs_mul] at hs
  obtain ⟨t, ht, hlt, hV⟩ := right_err h (Nat.two_pow_pos _) hP hP2 hs
  refine ⟨sgn (s != s') (V t), ?_, ?_⟩
  · rw [ht]; exact fv_pack _ hlt
  · rw [val_sgn hd, val_sgn hd', mul_val]
    have : ((2 : Int) ^ 1074) = ((2 ^ 1074 : Nat) : Int) := by simp
    rw [this, ← Float64.sgn_mul, Nat.mul_comm (V t)]
    refine Nat.le_trans (Nat.mul_le_mul_left 2 ?_) hV
    generalize 2 ^ 1074 * V t = A
    generalize (val x).natAbs * (val y).natAbs = B
    unfold dist
    rw [sgn_eq, sgn_eq]
    split <;> omega
theorem div_exact {x y : UInt64} {a b : Int} {q j : Nat} (hx : Fv x a) (hy : Fv y b) (hb : b ≠ 0) (hs : a.natAbs * 2 ^ 1074 = b.natAbs * (q * 2 ^ j)) (hq : q < 2 ^ 53) (hj : j ≤ 2045) : ∃ v, Fv (Float64.div x y) v ∧ v * b = a * 2 ^ 1074 := by
  obtain ⟨s, m, e, hd, rfl⟩ := hx
  obtain ⟨s', m', e', hd', rfl⟩ := hy
  have hm : m' ≠ 0 := by
    rintro rfl
    apply hb
    rw [Float64.val_eq hd']
    cases s' <;> simp [sgn_eq]
  have h := Float64.div_right hd hd' hm
  obtain ⟨t, ht, hlt, hV⟩ := right_exact h (by omega) hs hq hj
  refine ⟨sgn (s != s') (V t), ?_, ?_⟩
  · rw [ht]; exact fv_pack _ hlt
  · have e1 : ((2 : Int) ^ 1074) = ((2 ^ 1074 : Nat) : Int) := by simp
    rw [val_sgn hd, val_sgn hd', mul_val, e1, ← Float64.sgn_mul, hs, hV, Nat.mul_comm]
    cases s <;> cases s' <;> rfl
theorem div_err {x y : UInt64} {a b : Int} {P : Nat} (hx : Fv x a) (hy : Fv y b) (hb : b ≠ 0) (hP : 53 ≤ P) (hP2 : P ≤ 2097) (hs : a.natAbs * 2 ^ 1074 ≤ b.natAbs * 2 ^ P) :
    ∃ v, Fv (Float64.div x y) v ∧ 2 * (v * b - a * 2 ^ 1074).natAbs ≤ b.natAbs * 2 ^ (P - 53) := by
  obtain ⟨s, m, e, hd, rfl⟩ := hx
  obtain ⟨s', m', e', hd', rfl⟩ := hy
  have hm : m' ≠ 0 := by
    rintro rfl
    apply hb
    rw [Float64.val_eq hd']
    cases s' <;> simp [sgn_eq]
  have h := Float64.div_right hd hd' hm
  obtain ⟨t, ht, hlt, hV⟩ := right_err h (by omega) hP hP2 hs
  refine ⟨sgn (s != s') (V t), ?_, ?_⟩
  · rw [ht]; exact fv_pack _ hlt
  · have e1 : ((2 : Int) ^ 1074) = ((2 ^ 1074 : Nat) : Int) := by simp
    have e2 : val x * ((2 ^ 1074 : Nat) : Int) = sgn s ((val x).natAbs * 2 ^ 1074) := by rw [Float64.sgn_mul, ← val_sgn hd]
    have e3 : sgn (s != s') (V t) * val y = sgn s (V t * (val y).natAbs) := by
      rw [val_sgn hd', mul_val, Float64.sgn_natAbs]
      cases s <;> cases s' <;> rfl
    rw [e1, e2, e3, Nat.mul_comm (V t)]
    refine Nat.le_trans (Nat.mul_le_mul_left 2 ?_) hV
    generalize (val y).natAbs * V t = A
    generalize (val x).natAbs * 2 ^ 1074 = B
    unfold dist
    rw [sgn_eq, sgn_eq]
    split <;> omega
theorem fv_neg {x : UInt64} {a : Int} (hx : Fv x a) : Fv (Float64.neg x) (-a) := by
  obtain ⟨s, m, e, hd, rfl⟩ := hx
  exact ⟨_, _, _, Float64.neg_decode hd, Float64.neg_val hd⟩
theorem sub_def (x y : UInt64) : Float64.sub x y = Float64.add x (Float64.neg y) := by unfold Float64.sub; rfl
theorem sub_exact {x y : UInt64} {a b : Int} {q j : Nat} (hx : Fv x a) (hy : Fv y b) (hs : (a - b).natAbs = q * 2 ^ j) (hq : q < 2 ^ 53) (hj : j ≤ 2045) : Fv (Float64.sub x y) (a - b) := by
  have h := add_exact hx (fv_neg hy) (q := q) (j := j) (by rw [← Int.sub_eq_add_neg]; exact hs) hq hj
  rw [← Int.sub_eq_add_neg] at h
  rw [sub_def]
  exact h
theorem sub_err {x y : UInt64} {a b : Int} {P : Nat} (hx : Fv x a) (hy : Fv y b) (hP : 53 ≤ P) (hP2 : P ≤ 2097) (hs : (a - b).natAbs ≤ 2 ^ P) :
    ∃ v, Fv (Float64.sub x y) v ∧ 2 * (v - (a - b)).natAbs ≤ 2 ^ (P - 53) := by
  have h := add_err hx (fv_neg hy) hP hP2 (by rw [← Int.sub_eq_add_neg]; exact hs)
  rw [← Int.sub_eq_add_neg] at h
  rw [sub_def]
  exact h
theorem abs_decode {x : UInt64} {s : Bool} {m : Nat} {e : Int} (h : Float64.decode x = .fin s m e) : Float64.decode (Float64.abs x) = .fin false m e := by
  have hnan : Float64.isNaN x = false := by unfold Float64.isNaN; rw [h]
  have hp : (Float64.abs x).toNat = x.toNat % 2 ^ 63 := by
    unfold Float64.abs
    rw [if_neg (by simp [hnan]), Float64.pack_toNat false (by omega)]
    simp
  have h1 : (Float64.abs x).toNat / 2 ^ 63 = 0 := by rw [hp]; omega
  have h2 : (Float64.abs x).toNat / 2 ^ 52 % 2048 = x.toNat / 2 ^ 52 % 2048 := by rw [hp]; omega
  have h3 : (Float64.abs x).toNat % 2 ^ 52 = x.toNat % 2 ^ 52 := by rw [hp]; omega
  unfold Float64.decode at h ⊢
  simp only [h1, h2, h3] at h ⊢
  split at h
  · split at h <;> cases h
  · rename_i c1
    rw [if_neg c1]
    split at h
    · rename_i c2
      rw [if_pos c2]
      cases h
      rfl
    · rename_i c2
      rw [if_neg c2]
      cases h
      rfl
theorem fv_abs {x : UInt64} {a : Int} (hx : Fv x a) : Fv (Float64.abs x) (a.natAbs : Int) := by
  obtain ⟨s, m, e, hd, rfl⟩ := hx
  refine ⟨_, _, _, abs_decode hd, ?_⟩
  rw [Float64.val_eq (abs_decode hd), Float64.val_natAbs hd, sgn_eq]
  rfl
theorem cmp_fv {x y : UInt64} {a b : Int} (hx : Fv x a) (hy : Fv y b) : Float64.cmp x y = some (compare a b) := by
  obtain ⟨s, m, e, hd, rfl⟩ := hx
  obtain ⟨s', m', e', hd', rfl⟩ := hy
  exact Float64.cmp_right hd hd'
theorem cmp_eq {x y : UInt64} {a b : Int} (hx : Fv x a) (hy : Fv y b) : (Float64.cmp x y == some Ordering.eq) = decide (a = b) := by
  rw [cmp_fv hx hy]
  rcases Int.lt_trichotomy a b with h | h | h
  · rw [Int.compare_eq_lt.mpr h, decide_eq_false (by omega)]; rfl
  · rw [Int.compare_eq_eq.mpr h, decide_eq_true h]; rfl
  · rw [Int.compare_eq_gt.mpr h, decide_eq_false (by omega)]; rfl
theorem cmp_lt {x y : UInt64} {a b : Int} (hx : Fv x a) (hy : Fv y b) : (Float64.cmp x y == some Ordering.lt) = decide (a < b) := by
  rw [cmp_fv hx hy]
  rcases Int.lt_trichotomy a b with h | h | h
  · rw [Int.compare_eq_lt.mpr h, decide_eq_true h]; rfl
  · rw [Int.compare_eq_eq.mpr h, decide_eq_false (by omega)]; rfl
  · rw [Int.compare_eq_gt.mpr h, decide_eq_false (by omega)]; rfl
theorem cmp_gt {x y : UInt64} {a b : Int} (hx : Fv x a) (hy : Fv y b) : (Float64.cmp x y == some Ordering.gt) = decide (b < a) := by
  rw [cmp_fv hx hy]
  rcases Int.lt_trichotomy a b with h | h | h
  · rw [Int.compare_eq_lt.mpr h, decide_eq_false (by omega)]; rfl
  · rw [Int.compare_eq_eq.mpr h, decide_eq_false (by omega)]; rfl
  · rw [Int.compare_eq_gt.mpr h, decide_eq_true h]; rfl
theorem nn_fv {x : UInt64} {a : Int} (hx : Fv x a) (h : 0 ≤ a) : NN x := by
  show (Float64.cmp x 0 == some Ordering.lt) = false
  rw [cmp_lt hx fv_zero', decide_eq_false (by omega)]
end Mine

end FL
section FL2
open PySem PySem.W PySem.Calls PyProof.Rows
open PySem.Builtin.Math (vectorNorm)
set_option linter.unusedVariables false
namespace Mine
open PySem.Float64 (V Right dist infMag pack decode val sgn)
theorem decode_zero0 : decode 0 = .fin false 0 (-1074) := by
  with_unfolding_all rfl
theorem nn_iff_nan {x : UInt64} (h : decode x = .nan) : NN x := by
  show (Float64.cmp x 0 == some Ordering.lt) = false
  unfold Float64.cmp
  rw [h]
  rfl
theorem nn_inf {x : UInt64} (h : decode x = .inf false) : NN x := by
  show (Float64.cmp x 0 == some Ordering.lt) = false
  unfold Float64.cmp
  rw [h, decode_zero0]
  rfl
theorem not_nn_inf {x : UInt64} (h : decode x = .inf true) (hn : NN x) : False := by
  have hn' : (Float64.cmp x 0 == some Ordering.lt) = false := hn
  unfold Float64.cmp at hn'
  rw [h, decode_zero0] at hn'
  cases hn'
theorem nn_fin {x : UInt64} {s : Bool} {m : Nat} {e : Int} (h : decode x = .fin s m e) (hn : NN x) : s = false ∨ m = 0 := by
  have hf : Fv x (val x) := ⟨_, _, _, h, rfl⟩
  have hn' : (Float64.cmp x 0 == some Ordering.lt) = false := hn
  rw [cmp_lt hf fv_zero'] at hn'
  have h0 : ¬ val x < 0 := of_decide_eq_false hn'
  cases s with
  | false => exact .inl rfl
  | true =>
    right
    rw [Float64.val_eq h, sgn_eq] at h0
    rcases Nat.eq_zero_or_pos m with hm | hm
    · exact hm
    · have := Nat.mul_pos hm (Nat.two_pow_pos (e + 1074).toNat)
      simp only [if_true] at h0
      omega
theorem decode_infMag : decode (pack false infMag) = .inf false := by
  have h : (pack false infMag).toNat = 2047 * 2^52 := by decide +kernel
  unfold Float64.decode
  rw [h]
  rfl
theorem decode_nan : decode Float64.nan = .nan := by
  have h : (Float64.nan).toNat = 2047 * 2^52 + 2^51 := by decide +kernel
  unfold Float64.decode
  rw [h]
  rfl
theorem nn_pack {t : Nat} (h : t ≤ infMag) : NN (pack false t) := by
  rcases Nat.lt_or_ge t infMag with h1 | h1
  · exact nn_fv (fv_pack false h1) (by rw [sgn_eq]; simp)
  · have : t = infMag := by omega
    subst this
    exact nn_inf decode_infMag
theorem nn_ofFrac (n d : Nat) : NN (Float64.ofFrac false n d) := by
  unfold Float64.ofFrac
  exact nn_pack (by rw [Float64.roundMag_min]; omega)
theorem ofFrac_zero (b : Bool) (d : Nat) : NN (Float64.ofFrac b 0 d) := by
  unfold Float64.ofFrac
  have : Float64.roundMag 0 d = 0 := by unfold Float64.roundMag; rfl
  rw [this]
  exact nn_fv (fv_zero b) (by omega)
theorem nn_ofBin {s : Bool} {m : Nat} {e : Int} (h : s = false ∨ m = 0) : NN (Float64.ofBin s m e) := by
  unfold Float64.ofBin
  rcases h with rfl | rfl
  · exact nn_ofFrac _ _
  · have : (Float64.shift 0 1 e).1 = 0 := by unfold Float64.shift; split <;> simp
    simp only [this]
    exact ofFrac_zero _ _
theorem abs_cases (z : UInt64) : decode (Float64.abs z) = .nan ∨ decode (Float64.abs z) = .inf false ∨ ∃ m e, decode (Float64.abs z) = .fin false m e := by
  cases h : decode z with
  | nan =>
    left
    have hnan : Float64.isNaN z = true := by unfold Float64.isNaN; rw [h]
    unfold Float64.abs
    rw [if_pos hnan]
    exact decode_nan
  | fin s m e => exact .inr (.inr ⟨m, e, abs_decode h⟩)
  | inf s =>
    right; left
    have hnan : Float64.isNaN z = false := by unfold Float64.isNaN; rw [h]
    have hp : Float64.abs z = pack false (z.toNat % 2 ^ 63) := by
      unfold Float64.abs
      rw [if_neg (by simp [hnan])]
    have he : z.toNat % 2 ^ 63 = infMag := by
      unfold Float64.decode at h
      simp only at h
      split at h
      · rename_i c
        split at h
        · rename_i c2
          have c' : z.toNat / 2 ^ 52 % 2048 = 2047 := by simpa using c
          have c2' : z.toNat % 2 ^ 52 = 0 := by simpa using c2
          unfold Float64.infMag
          omega
        · cases h
      · split at h <;> cases h
    rw [hp, he]
    exact decode_infMag
theorem nn_nan : NN Float64.nan := nn_iff_nan decode_nan
theorem nn_infF : NN (Float64.inf false) := by unfold Float64.inf; exact nn_pack (Nat.le_refl _)
theorem nn_mul {sg z : UInt64} (h : NN sg) : NN (Float64.mul sg (Float64.abs z)) := by
  unfold Float64.mul
  cases hs : decode sg with
  | nan => exact nn_nan
  | inf s =>
    cases s with
    | true => exact (not_nn_inf hs h).elim
    | false =>
      rcases abs_cases z with hz | hz | ⟨m, e, hz⟩
      · rw [hz]; exact nn_nan
      · rw [hz]; exact nn_infF
      · rw [hz]
        show NN (if m == 0 then Float64.nan else Float64.inf (false != false))
        split
        · exact nn_nan
        · exact nn_infF
  | fin s m e =>
    have h0 := nn_fin hs h
    rcases abs_cases z with hz | hz | ⟨k, f, hz⟩
    · rw [hz]; exact nn_nan
    · rw [hz]
      show NN (if m == 0 then Float64.nan else Float64.inf (s != false))
      rcases h0 with rfl | rfl
      · split
        · exact nn_nan
        · exact nn_infF
      · exact nn_nan
    · rw [hz]
      refine nn_ofBin ?_
      rcases h0 with rfl | rfl
      · exact .inl rfl
      · exact .inr (Nat.zero_mul _)
theorem nn_zero (b : Bool) : NN (Float64.zero b) := nn_fv (fv_zero b) (by omega)
theorem nn_div {sg z : UInt64} (h : NN sg) : NN (Float64.div sg (Float64.abs z)) := by
  unfold Float64.div
  cases hs : decode sg with
  | nan => exact nn_nan
  | inf s =>
    cases s with
    | true => exact (not_nn_inf hs h).elim
    | false =>
      rcases abs_cases z with hz | hz | ⟨m, e, hz⟩
      · rw [hz]; exact nn_nan
      · rw [hz]; exact nn_nan
      · rw [hz]; exact nn_infF
  | fin s m e =>
    have h0 := nn_fin hs h
    rcases abs_cases z with hz | hz | ⟨k, f, hz⟩
    · rw [hz]; exact nn_nan
    · rw [hz]; exact nn_zero _
    · rw [hz]
      dsimp only
      split
      · split
        · exact nn_nan
        · rename_i c
          rcases h0 with rfl | rfl
          · exact nn_infF
          · exact absurd rfl c
      · rcases h0 with rfl | rfl
        · exact nn_ofFrac _ _
        · have : (Float64.shift 0 k (e - f)).1 = 0 := by unfold Float64.shift; split <;> simp
          rw [this]
          exact ofFrac_zero _ _
theorem fv_ofInt {i : Int} {q j : Nat} (h : i.natAbs = q * 2 ^ j) (hq : q < 2 ^ 53) (hj : j ≤ 900) : Fv (Float64.ofInt i) (i * 2 ^ 1074) := by
  have hr := Float64.ofInt_right i
  obtain ⟨t, ht, hlt, hV⟩ := right_exact (q := q) (j := j + 1074) hr (by decide) (by rw [h, Nat.one_mul, Nat.pow_add, Nat.mul_assoc]) hq (by omega)
  rw [ht]
  have := fv_pack (decide (i < 0)) hlt
  rw [hV, Nat.pow_add, ← Nat.mul_assoc, ← h] at this
  have e : sgn (decide (i < 0)) (i.natAbs * 2 ^ 1074) = i * 2 ^ 1074 := by
    rw [Float64.sgn_mul]
    have : ((2 : Int) ^ 1074) = ((2 ^ 1074 : Nat) : Int) := by simp
    rw [this]
    congr 1
    rw [sgn_eq]
    by_cases hn : i < 0
    · rw [decide_eq_true hn, if_pos rfl]; omega
    · rw [decide_eq_false hn, if_neg (by decide)]; omega
  rw [e] at this
  exact this
theorem dy_ofInt {i : Int} (h : i.natAbs < 2 ^ 53) : Dy (Float64.ofInt i) i 1074 := fv_ofInt (q := i.natAbs) (j := 0) (by simp) h (by omega)
end Mine

end FL2
section FL3
open PySem PySem.W PySem.Calls PyProof.Rows
open PySem.Builtin.Math
set_option linter.unusedVariables false
set_option exponentiation.threshold 3000
namespace Mine
open PySem.Float64 (V Right dist infMag pack decode val sgn)
theorem natAbs_mul_pow (n : Int) (k : Nat) : (n * 2 ^ k).natAbs = n.natAbs * 2 ^ k := by
  rw [Int.natAbs_mul, Int.natAbs_pow]; rfl
theorem dy_add {x y : UInt64} {a b : Int} {k : Nat} (hx : Dy x a k) (hy : Dy y b k) (h : (a + b).natAbs < 2 ^ 53) (hk : k ≤ 2045) : Dy (Float64.add x y) (a + b) k := by
  have h1 := add_exact (q := (a + b).natAbs) (j := k) hx hy (by rw [← Int.add_mul, natAbs_mul_pow]) h hk
  rw [← Int.add_mul] at h1
  exact h1
theorem dy_sub {x y : UInt64} {a b : Int} {k : Nat} (hx : Dy x a k) (hy : Dy y b k) (h : (a - b).natAbs < 2 ^ 53) (hk : k ≤ 2045) : Dy (Float64.sub x y) (a - b) k := by
  have h1 := sub_exact (q := (a - b).natAbs) (j := k) hx hy (by rw [← Int.sub_mul, natAbs_mul_pow]) h hk
  rw [← Int.sub_mul] at h1
  exact h1
theorem dy_neg {x : UInt64} {a : Int} {k : Nat} (hx : Dy x a k) : Dy (Float64.neg x) (-a) k := by
  have h1 := fv_neg hx
  rw [← Int.neg_mul] at h1
  exact h1
theorem dy_abs {x : UInt64} {a : Int} {k : Nat} (hx : Dy x a k) : Dy (Float64.abs x) (a.natAbs : Int) k := by
  have h1 := fv_abs hx
  rw [natAbs_mul_pow, Int.natCast_mul, Int.natCast_pow] at h1
  exact h1
theorem dy_mul {x y : UInt64} {a b : Int} {j k l : Nat} (hx : Dy x a j) (hy : Dy y b k) (h : (a * b).natAbs < 2 ^ 53) (hjk : j + k = 1074 + l) (hl : l ≤ 2045) : Dy (Float64.mul x y) (a * b) l := by
  have hp : (2 : Nat) ^ j * 2 ^ k = 2 ^ 1074 * 2 ^ l := by rw [← Nat.pow_add, hjk, Nat.pow_add]
  have hpi : (2 : Int) ^ j * 2 ^ k = 2 ^ 1074 * 2 ^ l := by rw [← Int.pow_add, hjk, Int.pow_add]
  obtain ⟨v, hv, e⟩ := mul_exact (q := (a * b).natAbs) (j := l) hx hy (by
    rw [Int.natAbs_mul, natAbs_mul_pow, natAbs_mul_pow, Int.natAbs_mul]
    calc a.natAbs * 2 ^ j * (b.natAbs * 2 ^ k) = a.natAbs * b.natAbs * (2 ^ j * 2 ^ k) := by ac_rfl
      _ = 2 ^ 1074 * (a.natAbs * b.natAbs * 2 ^ l) := by rw [hp]; ac_rfl) h hl
  have e2 : v * 2 ^ 1074 = a * b * 2 ^ l * 2 ^ 1074 := by
    rw [e]
    calc a * 2 ^ j * (b * 2 ^ k) = a * b * (2 ^ j * 2 ^ k) := by ac_rfl
      _ = a * b * 2 ^ l * 2 ^ 1074 := by rw [hpi]; ac_rfl
  have e3 : v = a * b * 2 ^ l := Int.eq_of_mul_eq_mul_right (Int.pow_ne_zero (by decide)) e2
  rw [e3] at hv
  exact hv
theorem dy_div {x y : UInt64} {c b : Int} {j k l : Nat} (hx : Dy x (c * b) j) (hy : Dy y b k) (hb : b ≠ 0) (h : c.natAbs < 2 ^ 53) (hjk : j + 1074 = k + l) (hl : l ≤ 2045) : Dy (Float64.div x y) c l := by
  have hp : (2 : Nat) ^ j * 2 ^ 1074 = 2 ^ k * 2 ^ l := by rw [← Nat.pow_add, hjk, Nat.pow_add]
  have hpi : (2 : Int) ^ j * 2 ^ 1074 = 2 ^ k * 2 ^ l := by rw [← Int.pow_add, hjk, Int.pow_add]
  have hb2 : b * 2 ^ k ≠ 0 := Int.mul_ne_zero hb (Int.pow_ne_zero (by decide))
  obtain ⟨v, hv, e⟩ := div_exact (q := c.natAbs) (j := l) hx hy hb2 (by
    rw [natAbs_mul_pow, natAbs_mul_pow, Int.natAbs_mul]
    calc c.natAbs * b.natAbs * 2 ^ j * 2 ^ 1074 = c.natAbs * b.natAbs * (2 ^ j * 2 ^ 1074) := by ac_rfl
      _ = b.natAbs * 2 ^ k * (c.natAbs * 2 ^ l) := by rw [hp]; ac_rfl) h hl
  have e2 : v * (b * 2 ^ k) = c * 2 ^ l * (b * 2 ^ k) := by
    rw [e]
    calc c * b * 2 ^ j * 2 ^ 1074 = c * b * (2 ^ j * 2 ^ 1074) := by ac_rfl
      _ = c * 2 ^ l * (b * 2 ^ k) := by rw [hpi]; ac_rfl
  have e3 : v = c * 2 ^ l := Int.eq_of_mul_eq_mul_right hb2 e2
  rw [e3] at hv
  exact hv
theorem dy_scale {x : UInt64} {a : Int} {j k l : Nat} (hx : Dy x a k) (h : k = j + l) : Dy x (a * 2 ^ j) l := by
  subst h
  unfold Dy at *
  rw [Int.pow_add, ← Int.mul_assoc] at hx
  exact hx
theorem sgn_add_pow {a : Bool} {m : Nat} {d : Nat} : sgn a (m * 2 ^ d) = sgn a m * 2 ^ d := by
  rw [Float64.sgn_mul, Int.natCast_pow]; rfl
theorem fma_right {x y z : UInt64} {a b c : Bool} {m k n : Nat} {e f g : Int} (hx : decode x = .fin a m e) (hy : decode y = .fin b k f) (hz : decode z = .fin c n g) :
    (val x * val y + val z * 2 ^ 1074 = 0 → Fv (Float64.fma x y z) 0) ∧
    (val x * val y + val z * 2 ^ 1074 ≠ 0 → Right (Float64.fma x y z) (decide (val x * val y + val z * 2 ^ 1074 < 0)) (val x * val y + val z * 2 ^ 1074).natAbs (2 ^ 1074)) := by
  have he := Float64.decode_ge hx
  have hf := Float64.decode_ge hy
  have hg := Float64.decode_ge hz
  have hfma : Float64.fma x y z = if sgn (a != b) (m * k * 2 ^ (e + f - min (e + f) g).toNat) + sgn c (n * 2 ^ (g - min (e + f) g).toNat) == 0 then Float64.zero (if m * k == 0 && n == 0 then (a != b) && c else false)
      else Float64.ofBin (sgn (a != b) (m * k * 2 ^ (e + f - min (e + f) g).toNat) + sgn c (n * 2 ^ (g - min (e + f) g).toNat) < 0) (sgn (a != b) (m * k * 2 ^ (e + f - min (e + f) g).toNat) + sgn c (n * 2 ^ (g - min (e + f) g).toNat)).natAbs (min (e + f) g) := by
    unfold Float64.fma
    rw [hx, hy, hz]
    rfl
  have hT : val x * val y + val z * 2 ^ 1074 = (sgn (a != b) (m * k * 2 ^ (e + f - min (e + f) g).toNat) + sgn c (n * 2 ^ (g - min (e + f) g).toNat)) * 2 ^ (min (e + f) g + 2148).toNat := by
    rw [Float64.val_eq hx, Float64.val_eq hy, Float64.val_eq hz, mul_val, sgn_add_pow, sgn_add_pow, sgn_add_pow, Int.add_mul, Int.mul_assoc, Int.mul_assoc, Int.mul_assoc, ← Int.pow_add, ← Int.pow_add, ← Int.pow_add]
    have e1 : (g + 1074).toNat + 1074 = (g - min (e + f) g).toNat + (min (e + f) g + 2148).toNat := by omega
    have e2 : (e + 1074).toNat + (f + 1074).toNat = (e + f - min (e + f) g).toNat + (min (e + f) g + 2148).toNat := by omega
    rw [← e1, ← e2]
    congr 1
    have : m * 2 ^ (e + 1074).toNat * (k * 2 ^ (f + 1074).toNat) = m * k * 2 ^ ((e + 1074).toNat + (f + 1074).toNat) := by rw [Nat.pow_add]; ac_rfl
    rw [this, sgn_add_pow]
  generalize hS : sgn (a != b) (m * k * 2 ^ (e + f - min (e + f) g).toNat) + sgn c (n * 2 ^ (g - min (e + f) g).toNat) = S at *
  have hpos : (0 : Int) < 2 ^ (min (e + f) g + 2148).toNat := Int.pow_pos (by decide)
  constructor
  · intro h0
    have hs : S = 0 := by
      rw [hT] at h0
      rcases Int.mul_eq_zero.mp h0 with h | h
      · exact h
      · omega
    rw [hfma, hs]
    exact fv_zero _
  · intro h0
    have hs : S ≠ 0 := by
      intro h
      rw [h, Int.zero_mul] at hT
      exact h0 hT
    have hneg : decide (val x * val y + val z * 2 ^ 1074 < 0) = decide (S < 0) := by
      rw [hT]
      apply decide_eq_decide.mpr
      constructor
      · intro h
        by_cases h2 : S < 0
        · exact h2
        · have := Int.mul_nonneg (show 0 ≤ S by omega) (Int.le_of_lt hpos)
          omega
      · intro h
        exact Int.mul_neg_of_neg_of_pos h hpos
    rw [hfma, if_neg (by simpa using hs), hneg, hT, natAbs_mul_pow]
    unfold Float64.ofBin
    refine Float64.ofFrac_right (Float64.shift_pos _ _ _ (by decide)) ?_ (Nat.two_pow_pos _)
    have := Float64.shift_one S.natAbs (min (e + f) g) 2148 (by omega)
    have e1 : (min (e + f) g + ((2148 : Nat) : Int)).toNat = (min (e + f) g + 2148).toNat := by omega
    rw [e1] at this
    rw [Nat.mul_assoc, ← Nat.pow_add]
    exact this
theorem fma_zero {x y z : UInt64} {a b c : Int} (hx : Fv x a) (hy : Fv y b) (hz : Fv z c) (h : a * b + c * 2 ^ 1074 = 0) : Fv (Float64.fma x y z) 0 := by
  obtain ⟨s, m, e, hd, rfl⟩ := hx
  obtain ⟨s', m', e', hd', rfl⟩ := hy
  obtain ⟨s'', m'', e'', hd'', rfl⟩ := hz
  exact (fma_right hd hd' hd'').1 h
theorem fma_err {x y z : UInt64} {a b c : Int} {P : Nat} (hx : Fv x a) (hy : Fv y b) (hz : Fv z c) (hP : 53 ≤ P) (hP2 : P ≤ 2097) (h : (a * b + c * 2 ^ 1074).natAbs ≤ 2 ^ 1074 * 2 ^ P) :
    ∃ v, Fv (Float64.fma x y z) v ∧ 2 * (v * 2 ^ 1074 - (a * b + c * 2 ^ 1074)).natAbs ≤ 2 ^ 1074 * 2 ^ (P - 53) := by
  obtain ⟨s, m, e, hd, rfl⟩ := hx
  obtain ⟨s', m', e', hd', rfl⟩ := hy
  obtain ⟨s'', m'', e'', hd'', rfl⟩ := hz
  obtain ⟨h0, h1⟩ := fma_right hd hd' hd''
  generalize val x * val y + val z * 2 ^ 1074 = T at *
  by_cases hz : T = 0
  · refine ⟨0, h0 hz, ?_⟩
    rw [hz]; simp
  · obtain ⟨t, ht, hlt, hV⟩ := right_err (h1 hz) (Nat.two_pow_pos _) hP hP2 h
    refine ⟨sgn (decide (T < 0)) (V t), ?_, ?_⟩
    · rw [ht]; exact fv_pack _ hlt
    · refine Nat.le_trans (Nat.mul_le_mul_left 2 ?_) hV
      have e1 : ((2 : Int) ^ 1074) = ((2 ^ 1074 : Nat) : Int) := by simp
      rw [e1, ← Float64.sgn_mul, Nat.mul_comm (V t)]
      generalize 2 ^ 1074 * V t = A
      unfold dist
      rw [sgn_eq]
      by_cases hn : T < 0
      · rw [decide_eq_true hn, if_pos rfl]; omega
      · rw [decide_eq_false hn, if_neg (by decide)]; omega
end Mine

end FL3
section FL4
open PySem PySem.W PySem.Calls PyProof.Rows
open PySem.Builtin.Math
set_option linter.unusedVariables false
set_option exponentiation.threshold 3000
namespace Mine
open PySem.Float64 (V Right dist infMag pack decode val sgn)
theorem fv_pos {x : UInt64} {v : Int} (h : Fv x v) (h0 : 0 < v) : ∃ m e, decode x = .fin false m e ∧ m ≠ 0 ∧ val x = v := by
  obtain ⟨s, m, e, hd, rfl⟩ := h
  have hv := Float64.val_eq hd
  cases s with
  | true =>
    exfalso
    rw [sgn_eq, if_pos rfl] at hv
    omega
  | false =>
    refine ⟨m, e, hd, ?_, rfl⟩
    rintro rfl
    rw [sgn_eq, if_neg (by decide), Nat.zero_mul] at hv
    omega
theorem sq_le {a b : Nat} (h : a * a ≤ b * b) : a ≤ b := by
  rcases Nat.lt_or_ge b a with h1 | h1
  · have := Nat.mul_self_lt_mul_self h1
    omega
  · exact h1
theorem sqrt_in {x : UInt64} {v : Int} {lo hi : Nat} (hx : Fv x v) (h0 : 0 < v) (h1 : lo * lo ≤ v.natAbs * 2 ^ 1074) (h2 : v.natAbs * 2 ^ 1074 ≤ hi * hi)
    (r1 : ∃ t, t < infMag ∧ V t = lo) (r2 : ∃ t, t < infMag ∧ V t = hi) : ∃ w : Nat, Fv (Float64.sqrt x) w ∧ lo ≤ w ∧ w ≤ hi := by
  obtain ⟨m, e, hd, hm, rfl⟩ := fv_pos hx h0
  obtain ⟨t, ht, hlt, hup, hdn⟩ := Float64.sqrt_right hd hm
  obtain ⟨a, ha, rfl⟩ := r1
  obtain ⟨b, hb, rfl⟩ := r2
  refine ⟨V t, ?_, ?_, ?_⟩
  · rw [ht]
    have := fv_pack false hlt
    rw [sgn_eq, if_neg (by decide)] at this
    exact this
  · rcases Nat.lt_or_ge t a with h | h
    · have h3 := hup a h
      have h4 := Float64.V_lt h
      have h5 : (2 * V a) * (2 * V a) ≤ (V t + V a) * (V t + V a) := by
        refine Nat.le_trans ?_ h3
        have : (2 * V a) * (2 * V a) = 4 * (V a * V a) := by rw [show (4 : Nat) = 2 * 2 by rfl]; ac_rfl
        omega
      have := sq_le h5
      omega
    · rcases Nat.eq_or_lt_of_le h with h | h
      · subst h; exact Nat.le_refl _
      · exact Nat.le_of_lt (Float64.V_lt h)
  · rcases Nat.lt_or_ge b t with h | h
    · have h3 := hdn b h
      have h4 := Float64.V_lt h
      have h5 : (V t + V b) * (V t + V b) ≤ (2 * V b) * (2 * V b) := by
        refine Nat.le_trans h3 ?_
        have : (2 * V b) * (2 * V b) = 4 * (V b * V b) := by rw [show (4 : Nat) = 2 * 2 by rfl]; ac_rfl
        omega
      have := sq_le h5
      omega
    · rcases Nat.eq_or_lt_of_le h with h | h
      · subst h; exact Nat.le_refl _
      · exact Nat.le_of_lt (Float64.V_lt h)
theorem root_ex (n : Nat) : ∃ q : Nat, q * q ≤ n ∧ n < (q + 1) * (q + 1) := by
  induction n with
  | zero => exact ⟨0, by decide, by decide⟩
  | succ n ih =>
    obtain ⟨q, h1, h2⟩ := ih
    by_cases h : n + 1 < (q + 1) * (q + 1)
    · exact ⟨q, by omega, h⟩
    · refine ⟨q + 1, by omega, ?_⟩
      have h3 : (q + 1) * (q + 1) < (q + 1 + 1) * (q + 1 + 1) := Nat.mul_self_lt_mul_self (by omega)
      omega
theorem sqrt_err {x : UInt64} {v : Int} {j : Nat} (hx : Fv x v) (h0 : 0 < v) (hj : j ≤ 2044) (h : v.natAbs * 2 ^ 1074 < 2 ^ (53 + j) * 2 ^ (53 + j)) :
    ∃ w lo : Nat, Fv (Float64.sqrt x) w ∧ lo ≤ w ∧ w ≤ lo + 2 ^ j ∧ lo * lo ≤ v.natAbs * 2 ^ 1074 ∧ v.natAbs * 2 ^ 1074 < (lo + 2 ^ j) * (lo + 2 ^ j) := by
  generalize hT : v.natAbs * 2 ^ 1074 = T at *
  have hz : 0 < 2 ^ j := Nat.two_pow_pos j
  obtain ⟨q, h1, h2⟩ := root_ex (T / (2 ^ j * 2 ^ j))
  have hN : 0 < 2 ^ j * 2 ^ j := Nat.mul_pos hz hz
  have h3 : q * 2 ^ j * (q * 2 ^ j) ≤ T := by
    have := (Nat.le_div_iff_mul_le hN).mp h1
    refine Nat.le_trans (Nat.le_of_eq ?_) this
    ac_rfl
  have h4 : T < (q * 2 ^ j + 2 ^ j) * (q * 2 ^ j + 2 ^ j) := by
    have := (Nat.div_lt_iff_lt_mul hN).mp h2
    refine Nat.lt_of_lt_of_eq this ?_
    have e : q * 2 ^ j + 2 ^ j = (q + 1) * 2 ^ j := by rw [Nat.add_mul, Nat.one_mul]
    rw [e]
    ac_rfl
  have hq : q < 2 ^ 53 := by
    rw [Nat.pow_add] at h
    generalize (2 : Nat) ^ j = z at *
    rcases Nat.lt_or_ge q (2 ^ 53) with h5 | h5
    · exact h5
    · have := Nat.mul_le_mul_right z h5
      have := Nat.mul_le_mul this this
      omega
  obtain ⟨w, hw, hl, hh⟩ := sqrt_in (lo := q * 2 ^ j) (hi := (q + 1) * 2 ^ j) hx h0 (by rw [hT]; exact h3) (by rw [hT, Nat.add_mul, Nat.one_mul]; exact Nat.le_of_lt h4) (repr_V j q hq (by omega)) (repr_V' j (q + 1) (by omega) hj)
  rw [Nat.add_mul, Nat.one_mul] at hh
  exact ⟨w, q * 2 ^ j, hw, hl, hh, h3, h4⟩
theorem dy_sqrt {x : UInt64} {c k l : Nat} (hx : Dy x ((c * c : Nat) : Int) k) (hc : 0 < c) (hq : c < 2 ^ 53) (h : k + 1074 = l + l) (hl : l ≤ 2045) : Dy (Float64.sqrt x) c l := by
  have hz : (0 : Int) < ((c * c : Nat) : Int) * 2 ^ k := Int.mul_pos (by have := Nat.mul_pos hc hc; omega) (Int.pow_pos (by decide))
  have hv : (((c * c : Nat) : Int) * 2 ^ k).natAbs * 2 ^ 1074 = c * 2 ^ l * (c * 2 ^ l) := by
    rw [natAbs_mul_pow, Int.natAbs_natCast, Nat.mul_assoc, ← Nat.pow_add, h, Nat.pow_add]
    ac_rfl
  obtain ⟨w, hw, hl, hh⟩ := sqrt_in (lo := c * 2 ^ l) (hi := c * 2 ^ l) hx hz (by rw [hv]; exact Nat.le_refl _) (by rw [hv]; exact Nat.le_refl _) (repr_V l c hq hl) (repr_V l c hq hl)
  have : w = c * 2 ^ l := by omega
  subst this
  rw [Int.natCast_mul, Int.natCast_pow] at hw
  exact hw
theorem two_pow_between {a b : Nat} {v : Nat} (h1 : 2 ^ a ≤ v) (h2 : v < 2 ^ (b + 1)) : a ≤ b := by
  have := (Nat.pow_lt_pow_iff_right (a := 2) (by decide)).mp (Nat.lt_of_le_of_lt h1 h2)
  omega
theorem frexp_exp {x : UInt64} {n k L : Nat} (hx : Dy x (n : Int) k) (h1 : 2 ^ L ≤ n) (h2 : n < 2 ^ (L + 1)) : (Float64.frexp x).2 = (L + k : Int) - 1073 := by
  have hz : (0 : Int) < (n : Int) * 2 ^ k := Int.mul_pos (by have := Nat.two_pow_pos L; omega) (Int.pow_pos (by decide))
  obtain ⟨m, e, hd, hm, hv⟩ := fv_pos hx hz
  have he := Float64.decode_ge hd
  have h3 : m * 2 ^ (e + 1074).toNat = n * 2 ^ k := by
    have := Float64.val_natAbs hd
    rw [hv, natAbs_mul_pow, Int.natAbs_natCast] at this
    exact this.symm
  have ha : 2 ^ m.log2 ≤ m := Nat.log2_self_le hm
  have hb : m < 2 ^ (m.log2 + 1) := Nat.lt_log2_self
  have hf : (Float64.frexp x).2 = e + m.log2 + 1 := by
    unfold Float64.frexp
    rw [hd]
    simp only
    rw [if_neg (by simpa using hm)]
  have i1 : 2 ^ (m.log2 + (e + 1074).toNat) ≤ n * 2 ^ k := by rw [← h3, Nat.pow_add]; exact Nat.mul_le_mul_right _ ha
  have i2 : n * 2 ^ k < 2 ^ (L + k + 1) := by
    rw [show L + k + 1 = L + 1 + k by omega, Nat.pow_add]
    exact Nat.mul_lt_mul_of_pos_right h2 (Nat.two_pow_pos _)
  have i3 : 2 ^ (L + k) ≤ n * 2 ^ k := by rw [Nat.pow_add]; exact Nat.mul_le_mul_right _ h1
  have i4 : n * 2 ^ k < 2 ^ (m.log2 + (e + 1074).toNat + 1) := by
    rw [← h3, show m.log2 + (e + 1074).toNat + 1 = m.log2 + 1 + (e + 1074).toNat by omega, Nat.pow_add _ (m.log2 + 1)]
    exact Nat.mul_lt_mul_of_pos_right hb (Nat.two_pow_pos _)
  have j1 := two_pow_between i1 i2
  have j2 := two_pow_between i3 i4
  rw [hf]
  omega
theorem decode_one : decode Float64.one = .fin false (2 ^ 52) (-52) := by
  have h : (Float64.one).toNat = 1023 * 2 ^ 52 := by decide +kernel
  unfold Float64.decode
  rw [h]
  rfl
theorem dy_one {j k : Nat} (h : j + k = 1074) : Dy Float64.one (2 ^ j) k := by
  have hv := Float64.val_eq decode_one
  refine ⟨_, _, _, decode_one, ?_⟩
  rw [hv, ← Int.pow_add, h]
  decide +kernel
theorem dy_ldexp_one {E : Int} {K : Nat} (h : E + 1074 = K) (h1 : 52 ≤ K) (h2 : K ≤ 2045) : Dy (Float64.ldexp Float64.one E) 1 K := by
  have hl : Float64.ldexp Float64.one E = Float64.ofBin false (2 ^ 52) (E - 52) := by
    unfold Float64.ldexp
    rw [decode_one]
    simp only
    congr 1
    omega
  have hr := Float64.ofBin_right (neg := false) (M := 2 ^ 52) (g := E - 52) (by omega)
  obtain ⟨t, ht, hlt, hV⟩ := right_exact (q := 1) (j := K) hr (by decide) (by
    rw [Nat.one_mul, Nat.one_mul, ← Nat.pow_add]
    congr 1
    omega) (by decide) h2
  rw [hl, ht]
  have := fv_pack false hlt
  rw [sgn_eq, if_neg (by decide), hV] at this
  unfold Dy
  rw [Int.natCast_mul, Int.natCast_pow] at this
  exact this
end Mine

end FL4
section FL5
open PySem PySem.W PySem.Calls PyProof.Rows
open PySem.Builtin.Math
set_option linter.unusedVariables false
set_option exponentiation.threshold 3000
namespace Mine
open PySem.Float64 (V Right dist infMag pack decode val sgn)
theorem dy_zero {x : UInt64} (h : Fv x 0) (k : Nat) : Dy x 0 k := by
  unfold Dy; rw [Int.zero_mul]; exact h
theorem zero_dy {x : UInt64} {k : Nat} (h : Dy x 0 k) : Fv x 0 := by
  unfold Dy at h; rw [Int.zero_mul] at h; exact h
theorem dl_mul {x y : UInt64} {a b : Int} {j k l : Nat} (hx : Dy x a j) (hy : Dy y b k) (h : (a * b).natAbs < 2 ^ 53) (hjk : j + k = 1074 + l) (hl : l ≤ 2045) : Dy (dlMul x y).1 (a * b) l ∧ Fv (dlMul x y).2 0 := by
  have h1 := dy_mul hx hy h hjk hl
  refine ⟨h1, fma_zero hx hy (dy_neg h1) ?_⟩
  have hpi : (2 : Int) ^ j * 2 ^ k = 2 ^ 1074 * 2 ^ l := by rw [← Int.pow_add, hjk, Int.pow_add]
  have : a * 2 ^ j * (b * 2 ^ k) = a * b * 2 ^ l * 2 ^ 1074 := by
    calc a * 2 ^ j * (b * 2 ^ k) = a * b * (2 ^ j * 2 ^ k) := by ac_rfl
      _ = _ := by rw [hpi]; ac_rfl
  rw [this, Int.neg_mul, Int.neg_mul]
  omega
def stepN (st : UInt64 × UInt64 × UInt64) (pr : UInt64 × UInt64) : UInt64 × UInt64 × UInt64 :=
  ((dlFastSum st.1 pr.1).1, Float64.add st.2.1 pr.2, Float64.add st.2.2 (dlFastSum st.1 pr.1).2)
theorem step_exact {c f1 f2 p r : UInt64} {s a : Int} {l : Nat} (hc : Dy c s l) (h1 : Fv f1 0) (h2 : Fv f2 0) (hp : Dy p a l) (hr : Fv r 0) (hs : (s + a).natAbs < 2 ^ 53) (ha : a.natAbs < 2 ^ 53) (hl : l ≤ 2045) :
    Dy (stepN (c, f1, f2) (p, r)).1 (s + a) l ∧ Fv (stepN (c, f1, f2) (p, r)).2.1 0 ∧ Fv (stepN (c, f1, f2) (p, r)).2.2 0 := by
  have e1 := dy_add hc hp hs hl
  have e2 := dy_sub hc e1 (by omega) hl
  have e3 := dy_add e2 hp (by omega) hl
  have e0 : s - (s + a) + a = 0 := by omega
  rw [e0] at e3
  have e4 := dy_add (dy_zero h1 l) (dy_zero hr l) (by decide) hl
  have e5 := dy_add (dy_zero h2 l) e3 (by decide) hl
  exact ⟨e1, zero_dy e4, zero_dy e5⟩
def tailN (st : UInt64 × UInt64 × UInt64) : UInt64 := Float64.add (Float64.sub st.1 Float64.one) (Float64.add st.2.1 st.2.2)
def endN (st : UInt64 × UInt64 × UInt64) (h : UInt64) : UInt64 :=
  Float64.add h (Float64.div (tailN (stepN st (dlMul (Float64.neg h) h))) (Float64.mul (Float64.ofInt 2) h))
def headN (x y : UInt64) : UInt64 × UInt64 × UInt64 := stepN (stepN (Float64.one, Float64.zero false, Float64.zero false) (dlMul x x)) (dlMul y y)
theorem scaled2 (x y big : UInt64) : scaledNorm [x, y] big =
    (let s := Float64.ldexp Float64.one (-(Float64.frexp big).2)
     let st := headN (Float64.mul x s) (Float64.mul y s)
     Float64.div (endN st (Float64.sqrt (tailN st))) s) := rfl
theorem sq_lt53 {n L : Nat} (h : n < 2 ^ (L + 1)) (hL : L ≤ 24) : n * n < 2 ^ (2 * L + 2) ∧ (2 : Nat) ^ (2 * L + 2) ≤ 2 ^ 50 := by
  refine ⟨?_, Nat.pow_le_pow_right (by decide) (by omega)⟩
  have : n * n < 2 ^ (L + 1) * 2 ^ (L + 1) := Nat.mul_self_lt_mul_self h
  rw [← Nat.pow_add] at this
  rw [show 2 * L + 2 = L + 1 + (L + 1) by omega]
  exact this
theorem head_exact {x y : UInt64} {n1 n2 L : Nat} (hx : Dy x (n1 : Int) (1073 - L)) (hy : Dy y (n2 : Int) (1073 - L)) (h1 : n1 < 2 ^ (L + 1)) (h2 : n2 < 2 ^ (L + 1)) (hL : L ≤ 24) :
    Dy (headN x y).1 ((2 ^ (2 * L + 2) + n1 * n1 + n2 * n2 : Nat) : Int) (1072 - 2 * L) ∧ Fv (headN x y).2.1 0 ∧ Fv (headN x y).2.2 0 ∧ Dy (tailN (headN x y)) ((n1 * n1 + n2 * n2 : Nat) : Int) (1072 - 2 * L) := by
  obtain ⟨a1, a0⟩ := sq_lt53 h1 hL
  obtain ⟨a2, _⟩ := sq_lt53 h2 hL
  have ho : Dy Float64.one (2 ^ (2 * L + 2)) (1072 - 2 * L) := dy_one (by omega)
  have hoc : ((2 : Int) ^ (2 * L + 2)) = ((2 ^ (2 * L + 2) : Nat) : Int) := by simp
  rw [hoc] at ho
  generalize (2 : Nat) ^ (2 * L + 2) = O at *
  obtain ⟨b1, b2⟩ := dl_mul (l := 1072 - 2 * L) hx hx (by rw [Int.natAbs_mul, Int.natAbs_natCast]; omega) (by omega) (by omega)
  obtain ⟨c1, c2⟩ := dl_mul (l := 1072 - 2 * L) hy hy (by rw [Int.natAbs_mul, Int.natAbs_natCast]; omega) (by omega) (by omega)
  rw [← Int.natCast_mul] at b1 c1
  obtain ⟨d1, d2, d3⟩ := step_exact ho (fv_zero false) (fv_zero false) b1 b2 (by omega) (by omega) (by omega)
  obtain ⟨e1, e2, e3⟩ := step_exact d1 d2 d3 c1 c2 (by omega) (by omega) (by omega)
  have t1 := dy_sub e1 ho (by omega) (by omega)
  have t2 := dy_add (dy_zero e2 (1072 - 2 * L)) (dy_zero e3 (1072 - 2 * L)) (by decide) (by omega)
  have t3 := dy_add t1 t2 (by omega) (by omega)
  refine ⟨?_, e2, e3, ?_⟩
  · have : ((O + n1 * n1 + n2 * n2 : Nat) : Int) = (O : Int) + ((n1 * n1 : Nat) : Int) + ((n2 * n2 : Nat) : Int) := by omega
    rw [this]; exact e1
  · have : ((n1 * n1 + n2 * n2 : Nat) : Int) = (O : Int) + ((n1 * n1 : Nat) : Int) + ((n2 * n2 : Nat) : Int) - (O : Int) + (0 + 0) := by omega
    rw [this]; exact t3
theorem end_exact {st : UInt64 × UInt64 × UInt64} {h : UInt64} {c L : Nat} (h1 : Dy st.1 ((2 ^ (2 * L + 2) + c * c : Nat) : Int) (1072 - 2 * L)) (h2 : Fv st.2.1 0) (h3 : Fv st.2.2 0) (hh : Dy h (c : Int) (1073 - L)) (hc : 0 < c)
    (hc2 : c < 2 ^ 26) (hL : L ≤ 24) (hcc : c * c < 2 ^ 52) : Dy (endN st h) (c : Int) (1073 - L) := by
  have a0 : (2 : Nat) ^ (2 * L + 2) ≤ 2 ^ 50 := Nat.pow_le_pow_right (by decide) (by omega)
  have ho : Dy Float64.one (2 ^ (2 * L + 2)) (1072 - 2 * L) := dy_one (by omega)
  have hoc : ((2 : Int) ^ (2 * L + 2)) = ((2 ^ (2 * L + 2) : Nat) : Int) := by simp
  rw [hoc] at ho
  generalize (2 : Nat) ^ (2 * L + 2) = O at *
  obtain ⟨b1, b2⟩ := dl_mul (l := 1072 - 2 * L) (dy_neg hh) hh (by rw [Int.natAbs_mul, Int.natAbs_neg, Int.natAbs_natCast]; omega) (by omega) (by omega)
  have e0 : (-(c : Int) * c) = -((c * c : Nat) : Int) := by rw [Int.neg_mul, Int.natCast_mul]
  rw [e0] at b1
  obtain ⟨e1, e2, e3⟩ := step_exact h1 h2 h3 b1 b2 (by omega) (by omega) (by omega)
  have t1 := dy_sub e1 ho (by omega) (by omega)
  have t2 := dy_add (dy_zero e2 (1072 - 2 * L)) (dy_zero e3 (1072 - 2 * L)) (by decide) (by omega)
  have t3 := dy_add t1 t2 (by omega) (by omega)
  have ez : ((O + c * c : Nat) : Int) + -((c * c : Nat) : Int) - (O : Int) + (0 + 0) = 0 := by omega
  rw [ez] at t3
  have two := dy_ofInt (i := 2) (by decide)
  have m2 := dy_mul (l := 1073 - L) two hh (by omega) (by omega) (by omega)
  have q0 := dy_div (c := 0) (j := 1073 - L) (l := 1074) (by rw [Int.zero_mul]; exact dy_zero (zero_dy t3) _) m2 (by omega) (by decide) (by omega) (by omega)
  have r0 := dy_add hh (dy_zero (zero_dy q0) (1073 - L)) (by omega) (by omega)
  rw [Int.add_zero] at r0
  exact r0
theorem scaled_exact {x y big : UInt64} {n1 n2 c k L M : Nat} (hx : Dy x (n1 : Int) k) (hy : Dy y (n2 : Int) k) (hb : Dy big (M : Int) k) (hM1 : 2 ^ L ≤ M) (hM2 : M < 2 ^ (L + 1)) (h1 : n1 ≤ M) (h2 : n2 ≤ M)
    (hc : n1 * n1 + n2 * n2 = c * c) (hc0 : 0 < c) (hL : L ≤ 24) (hk1 : 102 ≤ k) (hk2 : k ≤ 2000) : Dy (scaledNorm [x, y] big) (c : Int) k := by
  rw [scaled2, frexp_exp hb hM1 hM2]
  have hs := dy_ldexp_one (E := -((L + k : Int) - 1073)) (K := 2147 - L - k) (by omega) (by omega) (by omega)
  have i1 : n1 < 2 ^ (L + 1) := by omega
  have i2 : n2 < 2 ^ (L + 1) := by omega
  have b0 : (2 : Nat) ^ (L + 1) ≤ 2 ^ 25 := Nat.pow_le_pow_right (by decide) (by omega)
  have hX := dy_mul (l := 1073 - L) hx hs (by omega) (by omega) (by omega)
  have hY := dy_mul (l := 1073 - L) hy hs (by omega) (by omega) (by omega)
  rw [Int.mul_one] at hX hY
  obtain ⟨p1, p2, p3, p4⟩ := head_exact hX hY i1 i2 hL
  obtain ⟨a1, a0⟩ := sq_lt53 i1 hL
  obtain ⟨a2, _⟩ := sq_lt53 i2 hL
  have hcc : c * c < 2 ^ 52 := by omega
  have hc2 : c < 2 ^ 26 := by
    rcases Nat.lt_or_ge c (2 ^ 26) with h | h
    · exact h
    · have := Nat.mul_le_mul h h
      omega
  rw [Nat.add_assoc, hc] at p1
  rw [hc] at p4
  have hh := dy_sqrt (l := 1073 - L) p4 hc0 (by omega) (by omega) (by omega)
  have he := end_exact p1 p2 p3 hh hc0 hc2 hL hcc
  exact dy_div (c := (c : Int)) (b := 1) (by rw [Int.mul_one]; exact he) hs (by decide) (by omega) (by omega) (by omega)
end Mine

end FL5
section FL6
open PySem PySem.W PySem.Calls PyProof.Rows
open PySem.Builtin.Math
set_option linter.unusedVariables false
set_option exponentiation.threshold 3000
namespace Mine
open PySem.Float64 (V Right dist infMag pack decode val sgn)
structure UG (G O : Nat) : Prop where
  g : G = 2 ^ 1024
  o : O = 2 ^ 1074
section
variable {G O : Nat} {x y z : UInt64} {a b c : Int}
theorem big_eq (hG : G = 2 ^ 1024) : 2 ^ 54 * G = 2 ^ 1078 ∧ 2 ^ (1078 - 53) = 2 * G := by
  subst hG
  constructor
  · rw [← Nat.pow_add]
  · rw [show 1078 - 53 = 1024 + 1 by rfl, Nat.pow_succ, Nat.mul_comm]
theorem g_add (U : UG G O) (hx : Fv x a) (hy : Fv y b) (h : (a + b).natAbs ≤ 2 ^ 54 * G) : ∃ v, Fv (Float64.add x y) v ∧ -(G : Int) ≤ v - (a + b) ∧ v - (a + b) ≤ (G : Int) := by
  obtain ⟨hG, hO⟩ := U
  obtain ⟨e1, e2⟩ := big_eq hG
  obtain ⟨v, hv, hd⟩ := add_err (P := 1078) hx hy (by omega) (by omega) (by rw [← e1]; exact h)
  rw [e2] at hd
  exact ⟨v, hv, by omega, by omega⟩
theorem g_sub (U : UG G O) (hx : Fv x a) (hy : Fv y b) (h : (a - b).natAbs ≤ 2 ^ 54 * G) : ∃ v, Fv (Float64.sub x y) v ∧ -(G : Int) ≤ v - (a - b) ∧ v - (a - b) ≤ (G : Int) := by
  obtain ⟨hG, hO⟩ := U
  obtain ⟨e1, e2⟩ := big_eq hG
  obtain ⟨v, hv, hd⟩ := sub_err (P := 1078) hx hy (by omega) (by omega) (by rw [← e1]; exact h)
  rw [e2] at hd
  exact ⟨v, hv, by omega, by omega⟩
theorem g_mul (U : UG G O) (hx : Fv x a) (hy : Fv y b) (h : (a * b).natAbs ≤ O * (2 ^ 54 * G)) : ∃ v, Fv (Float64.mul x y) v ∧ (v * O - a * b).natAbs ≤ O * G := by
  obtain ⟨hG, hO⟩ := U
  obtain ⟨e1, e2⟩ := big_eq hG
  obtain ⟨v, hv, hd⟩ := mul_err (P := 1078) hx hy (by omega) (by omega) (by rw [← e1, ← hO]; exact h)
  rw [e2, ← hO, Nat.mul_left_comm] at hd
  have : ((2 : Int) ^ 1074) = ((2 ^ 1074 : Nat) : Int) := by simp
  rw [this, ← hO] at hd
  exact ⟨v, hv, by omega⟩
theorem g_fma (U : UG G O) (hx : Fv x a) (hy : Fv y b) (hz : Fv z c) (h : (a * b + c * O).natAbs ≤ O * (2 ^ 54 * G)) : ∃ v, Fv (Float64.fma x y z) v ∧ (v * O - (a * b + c * O)).natAbs ≤ O * G := by
  obtain ⟨hG, hO⟩ := U
  obtain ⟨e1, e2⟩ := big_eq hG
  have : ((2 : Int) ^ 1074) = ((2 ^ 1074 : Nat) : Int) := by simp
  obtain ⟨v, hv, hd⟩ := fma_err (P := 1078) hx hy hz (by omega) (by omega) (by rw [← e1, this, ← hO]; exact h)
  rw [e2, this, ← hO, Nat.mul_left_comm] at hd
  exact ⟨v, hv, by omega⟩
theorem g_div (U : UG G O) (hx : Fv x a) (hy : Fv y b) (hb : b ≠ 0) (h : a.natAbs * O ≤ b.natAbs * (2 ^ 54 * G)) : ∃ v, Fv (Float64.div x y) v ∧ (v * b - a * O).natAbs ≤ b.natAbs * G := by
  obtain ⟨hG, hO⟩ := U
  obtain ⟨e1, e2⟩ := big_eq hG
  have : ((2 : Int) ^ 1074) = ((2 ^ 1074 : Nat) : Int) := by simp
  obtain ⟨v, hv, hd⟩ := div_err (P := 1078) hx hy hb (by omega) (by omega) (by rw [← e1, ← hO]; exact h)
  rw [e2, this, ← hO, Nat.mul_left_comm] at hd
  exact ⟨v, hv, by omega⟩
end
theorem sq_mul_le {a b : Nat} (h : a ≤ b) : a * a ≤ b * b := Nat.mul_le_mul h h
/-- the root, and its square -/
theorem root_near {G O v lo w : Nat} (hG : 0 < G) (hOG : O = 2 ^ 50 * G) (h1 : O ≤ 4 * v) (h2 : v ≤ 2 * O) (l1 : lo ≤ w) (l2 : w ≤ lo + G) (s1 : lo * lo ≤ v * O) (s2 : v * O < (lo + G) * (lo + G)) :
    w ≤ 2 * O + G ∧ O ≤ 2 * w + 2 * G ∧ w * w ≤ v * O + 5 * (O * G) ∧ v * O ≤ w * w + 5 * (O * G) := by
  have i1 : lo ≤ 2 * O := by
    refine sq_le (Nat.le_trans s1 ?_)
    have := Nat.mul_le_mul_right O h2
    have e : 2 * O * (2 * O) = 4 * (O * O) := by rw [show (4 : Nat) = 2 * 2 by rfl]; ac_rfl
    have e2 : 2 * O * O = 2 * (O * O) := by ac_rfl
    omega
  have i2 : O ≤ 2 * (lo + G) := by
    refine sq_le ?_
    have := Nat.mul_le_mul_right O h1
    have e : 2 * (lo + G) * (2 * (lo + G)) = 4 * ((lo + G) * (lo + G)) := by rw [show (4 : Nat) = 2 * 2 by rfl]; ac_rfl
    have e2 : 4 * v * O = 4 * (v * O) := by ac_rfl
    omega
  have e1 : (lo + G) * (lo + G) = lo * lo + 2 * (lo * G) + G * G := by
    rw [Nat.add_mul, Nat.mul_add, Nat.mul_add, Nat.mul_comm G lo]; omega
  have j1 := Nat.mul_le_mul_right G i1
  have e3 : 2 * O * G = 2 * (O * G) := by ac_rfl
  have j2 : G * G ≤ O * G := Nat.mul_le_mul_right G (by omega)
  have k1 := sq_mul_le l1
  have k2 := sq_mul_le l2
  refine ⟨by omega, by omega, by omega, by omega⟩
theorem abs_le_of_mul {t : Int} {O K : Nat} (hO : 0 < O) (h : (t * O).natAbs ≤ K * O) : t.natAbs ≤ K := by
  rw [Int.natAbs_mul, Int.natAbs_natCast] at h
  exact Nat.le_of_mul_le_mul_right h hO
theorem sq_close {a b G K : Nat} (h : a ≤ b + 21 * G) (hb : b ≤ 3 * K) (hG : 21 * G ≤ K) : a * a ≤ b * b + 147 * (K * G) := by
  have h1 := sq_mul_le h
  have e1 : (b + 21 * G) * (b + 21 * G) = b * b + 42 * (b * G) + 21 * (21 * G * G) := by
    rw [Nat.add_mul, Nat.mul_add, Nat.mul_add, show b * (21 * G) = 21 * (b * G) by ac_rfl, show 21 * G * b = 21 * (b * G) by ac_rfl, show 21 * G * (21 * G) = 21 * (21 * G * G) by ac_rfl]
    omega
  have h2 := Nat.mul_le_mul_right G hb
  have h3 := Nat.mul_le_mul_right G hG
  rw [Nat.mul_assoc 3] at h2
  omega
set_option maxHeartbeats 0 in
theorem end_near {st : UInt64 × UInt64 × UInt64} {S : UInt64} {v : Nat} {G O : Nat} (U : UG G O) (h1 : Fv st.1 ((O + v : Nat) : Int)) (h2 : Fv st.2.1 0) (h3 : Fv st.2.2 0) (hS : Fv S (v : Int)) (v1 : O ≤ 4 * v) (v2 : v ≤ 2 * O) :
    ∃ H : Nat, Fv (endN st (Float64.sqrt S)) (H : Int) ∧ 2 * H ≤ 5 * O ∧ O ≤ 3 * H ∧ H * H ≤ v * O + 152 * (O * G) ∧ v * O ≤ H * H + 152 * (O * G) := by
  have hG0 : 0 < G := by rw [U.g]; exact Nat.two_pow_pos _
  have hOG : O = 2 ^ 50 * G := by rw [U.o, U.g, ← Nat.pow_add]
  have hO0 : 0 < O := by omega
  have hone : Fv Float64.one (O : Int) := by
    have := dy_one (j := 0) (k := 1074) (by omega)
    unfold Dy at this
    rw [U.o, Int.natCast_pow]
    simpa using this
  obtain ⟨w, lo, hw, l1, l2, s1, s2⟩ := sqrt_err (j := 1022) hS (by omega) (by omega) (by
    rw [Int.natAbs_natCast, ← U.o, show 2 ^ (53 + 1022) = 2 * O by rw [U.o, ← Nat.pow_succ']]
    have := Nat.mul_le_mul_right O v2
    have e : 2 * O * (2 * O) = 2 * O * O + 2 * O * O := by rw [Nat.mul_left_comm]; omega
    have := Nat.mul_pos hO0 hO0
    have e2 : 2 * O * O = O * O + O * O := by rw [Nat.mul_assoc]; omega
    omega)
  rw [Int.natAbs_natCast, ← U.o] at s1 s2
  have hq : (2 : Nat) ^ 1022 ≤ G := by rw [U.g]; exact Nat.pow_le_pow_right (by decide) (by decide)
  generalize (2 : Nat) ^ 1022 = Z at *
  obtain ⟨w1, w2, w3, w4⟩ := root_near hG0 hOG v1 v2 l1 (by omega) s1 (Nat.lt_of_lt_of_le s2 (Nat.mul_le_mul (by omega) (by omega)))
  clear s1 s2 l1 l2 hq
  -- z
  have vO := Nat.mul_le_mul_right O v2
  have eOO : 2 * O * O = 2 ^ 51 * (O * G) := by rw [show 2 * O * O = 2 * (O * O) by ac_rfl]; conv => lhs; rhs; rhs; rw [hOG]
                                                rw [show O * (2 ^ 50 * G) = 2 ^ 50 * (O * G) by ac_rfl]; omega
  have hsq : (-(w : Int) * w) = -((w * w : Nat) : Int) := by rw [Int.neg_mul, Int.natCast_mul]
  have e54 : O * (2 ^ 54 * G) = 2 ^ 54 * (O * G) := by ac_rfl
  obtain ⟨z, hz, dz⟩ := g_mul U (fv_neg hw) hw (by rw [hsq, Int.natAbs_neg, Int.natAbs_natCast, e54]; omega)
  rw [hsq] at dz
  obtain ⟨r, hr, dr⟩ := g_fma U (fv_neg hw) hw (fv_neg hz) (by
    rw [hsq, e54, Int.neg_mul]
    generalize z * (O : Int) = zO at *
    omega)
  rw [hsq, Int.neg_mul] at dr
  have bz : (z + v).natAbs ≤ 6 * G := by
    refine abs_le_of_mul hO0 ?_
    rw [Int.add_mul, ← Int.natCast_mul, show 6 * G * O = 6 * (O * G) by ac_rfl]
    generalize z * (O : Int) = zO at *
    generalize O * G = OG at *
    omega
  have br : r.natAbs ≤ 2 * G := by
    refine abs_le_of_mul hO0 ?_
    rw [show 2 * G * O = 2 * (O * G) by ac_rfl]
    generalize z * (O : Int) = zO at *
    generalize r * (O : Int) = rO at *
    generalize O * G = OG at *
    omega
  have h0 : Fv st.1 ((O : Int) + v) := by have := h1; rw [Int.natCast_add] at this; exact this
  clear dz dr
  have bz1 : -(6 * (G : Int)) ≤ z + v := by omega
  have bz2 : z + v ≤ 6 * (G : Int) := by omega
  have br1 : -(2 * (G : Int)) ≤ r := by omega
  have br2 : r ≤ 2 * (G : Int) := by omega
  clear bz br
  obtain ⟨c1, hc1, d1, d1'⟩ := g_add U h0 hz (by omega)
  obtain ⟨c2, hc2, d2, d2'⟩ := g_sub U h0 hc1 (by omega)
  obtain ⟨c3, hc3, d3, d3'⟩ := g_add U hc2 hz (by omega)
  obtain ⟨f1, hf1, d4, d4'⟩ := g_add U h2 hr (by omega)
  obtain ⟨f2, hf2, d5, d5'⟩ := g_add U h3 hc3 (by omega)
  obtain ⟨x1, hx1, d6, d6'⟩ := g_sub U hc1 hone (by omega)
  obtain ⟨x2, hx2, d7, d7'⟩ := g_add U hf1 hf2 (by omega)
  obtain ⟨X, hX, d8, d8'⟩ := g_add U hx1 hx2 (by omega)
  have bX : X.natAbs ≤ 17 * G := by omega
  clear d1 d1' d2 d2' d3 d3' d4 d4' d5 d5' d6 d6' d7 d7' d8 d8' bz1 bz2 br1 br2
  have two : Fv (Float64.ofInt 2) (2 * (O : Int)) := by
    have := dy_ofInt (i := 2) (by decide)
    rw [U.o, Int.natCast_pow]
    exact this
  obtain ⟨D, hD, dD⟩ := g_mul U two hw (by
    rw [Int.natAbs_mul, Int.natAbs_mul, Int.natAbs_natCast, Int.natAbs_natCast, show Int.natAbs 2 * O * w = O * (2 * w) by (rw [show Int.natAbs 2 = 2 by rfl]; ac_rfl)]
    exact Nat.mul_le_mul_left O (by omega))
  have bD : (D - 2 * w).natAbs ≤ G := by
    refine abs_le_of_mul hO0 ?_
    rw [Int.sub_mul, Nat.mul_comm G, show 2 * (w : Int) * O = 2 * O * w by ac_rfl]
    exact dD
  have D0 : 0 < D := by omega
  have D1 : 10 * O ≤ 11 * D.natAbs ∧ 0 < D := ⟨by omega, D0⟩
  have XO : 10 * (X.natAbs * O) ≤ 187 * (D.natAbs * G) := by
    have := Nat.mul_le_mul bX D1.1
    rw [show 17 * G * (11 * D.natAbs) = 187 * (D.natAbs * G) by (rw [show (187 : Nat) = 17 * 11 by rfl]; ac_rfl), show X.natAbs * (10 * O) = 10 * (X.natAbs * O) by ac_rfl] at this
    exact this
  obtain ⟨q, hq', dq⟩ := g_div U hX hD (by omega) (by
    rw [show D.natAbs * (2 ^ 54 * G) = 2 ^ 54 * (D.natAbs * G) by ac_rfl]
    omega)
  have bq : q.natAbs ≤ 20 * G := by
    refine Nat.le_of_mul_le_mul_right (c := D.natAbs) ?_ (by omega)
    rw [← Int.natAbs_mul]
    have t2 : (X * (O : Int)).natAbs = X.natAbs * O := by rw [Int.natAbs_mul, Int.natAbs_natCast]
    rw [show 20 * G * D.natAbs = 20 * (D.natAbs * G) by ac_rfl]
    generalize X * (O : Int) = XO at *
    generalize q * D = qD at *
    omega
  have w3' : w ≤ 2 * O + G := w1
  obtain ⟨H, hH, dH, dH'⟩ := g_add U hw hq' (by omega)
  clear bD D0 D1 bX dq
  have h102 : -(21 * (G : Int)) ≤ H - w := by omega
  have h102' : H - w ≤ 21 * (G : Int) := by omega
  have hHw : H.toNat ≤ w + 21 * G := by omega
  have hwH : w ≤ H.toNat + 21 * G := by omega
  have hHp : 0 ≤ H := by omega
  clear h102 h102' dH dH' bq
  refine ⟨H.toNat, ?_, by omega, by omega, ?_, ?_⟩
  · rw [Int.toNat_of_nonneg hHp]; exact hH
  · have := sq_close hHw (K := O) (by omega) (by omega)
    omega
  · have := sq_close hwH (K := O) (by omega) (by omega)
    omega
end Mine

end FL6
section FL7
open PySem PySem.W PySem.Calls PyProof.Rows
open PySem.Builtin.Math
set_option linter.unusedVariables false
set_option exponentiation.threshold 3000
namespace Mine
open PySem.Float64 (V Right dist infMag pack decode val sgn)
theorem ug : UG (2 ^ 1024) (2 ^ 1074) := ⟨rfl, rfl⟩
theorem scaled_near {x y big : UInt64} {n1 n2 k L M : Nat} (hx : Dy x (n1 : Int) k) (hy : Dy y (n2 : Int) k) (hb : Dy big (M : Int) k) (hM1 : 2 ^ L ≤ M) (hM2 : M < 2 ^ (L + 1)) (h1 : n1 ≤ M) (h2 : n2 ≤ M)
    (hM : M = n1 ∨ M = n2) (hL : L ≤ 24) (hk1 : 102 ≤ k) (hk2 : k ≤ 2000) :
    ∃ (R : Int) (H : Nat), Fv (scaledNorm [x, y] big) R ∧ (∀ G O, UG G O → 2 * (R * 2 ^ (2147 - L - k) - H * O).natAbs ≤ O * G ∧ 2 * H ≤ 5 * O ∧ O ≤ 3 * H ∧
      H * H ≤ (n1 * n1 + n2 * n2) * 2 ^ (1072 - 2 * L) * O + 152 * (O * G) ∧ (n1 * n1 + n2 * n2) * 2 ^ (1072 - 2 * L) * O ≤ H * H + 152 * (O * G)) := by
  rw [scaled2, frexp_exp hb hM1 hM2]
  dsimp only
  have hs := dy_ldexp_one (E := -((L + k : Int) - 1073)) (K := 2147 - L - k) (by omega) (by omega) (by omega)
  have i1 : n1 < 2 ^ (L + 1) := by omega
  have i2 : n2 < 2 ^ (L + 1) := by omega
  have b0 : (2 : Nat) ^ (L + 1) ≤ 2 ^ 25 := Nat.pow_le_pow_right (by decide) (by omega)
  have hX := dy_mul (l := 1073 - L) hx hs (by omega) (by omega) (by omega)
  have hY := dy_mul (l := 1073 - L) hy hs (by omega) (by omega) (by omega)
  rw [Int.mul_one] at hX hY
  obtain ⟨p1, p2, p3, p4⟩ := head_exact hX hY i1 i2 hL
  obtain ⟨a1, a0⟩ := sq_lt53 i1 hL
  obtain ⟨a2, _⟩ := sq_lt53 i2 hL
  have am : 2 ^ (2 * L) ≤ n1 * n1 + n2 * n2 := by
    have e : (2 : Nat) ^ (2 * L) = 2 ^ L * 2 ^ L := by rw [← Nat.pow_add]; congr 1; omega
    have := sq_mul_le hM1
    rcases hM with rfl | rfl <;> omega
  generalize hN : n1 * n1 + n2 * n2 = N at *
  generalize hst : headN _ _ = st at *
  have hO : (2 : Nat) ^ (2 * L + 2) * 2 ^ (1072 - 2 * L) = 2 ^ 1074 := by rw [← Nat.pow_add]; congr 1; omega
  have hO4 : (2 : Nat) ^ (2 * L + 2) = 4 * 2 ^ (2 * L) := by rw [Nat.pow_add, Nat.mul_comm]
  have q1 : Fv st.1 ((2 ^ 1074 + N * 2 ^ (1072 - 2 * L) : Nat) : Int) := by
    have e : ((2 ^ (2 * L + 2) + n1 * n1 + n2 * n2 : Nat) : Int) * 2 ^ (1072 - 2 * L) = ((2 ^ 1074 + N * 2 ^ (1072 - 2 * L) : Nat) : Int) := by
      rw [Nat.add_assoc, hN, ← hO, ← Nat.add_mul, Int.natCast_mul, Int.natCast_pow]; rfl
    unfold Dy at p1
    rw [e] at p1
    exact p1
  have q4 : Fv (tailN st) ((N * 2 ^ (1072 - 2 * L) : Nat) : Int) := by
    unfold Dy at p4
    rw [Int.natCast_mul, Int.natCast_pow]
    exact p4
  have v1 : 2 ^ 1074 ≤ 4 * (N * 2 ^ (1072 - 2 * L)) := by
    rw [← hO, hO4, ← Nat.mul_assoc]
    exact Nat.mul_le_mul_right _ (Nat.mul_le_mul_left 4 am)
  have v2 : N * 2 ^ (1072 - 2 * L) ≤ 2 * 2 ^ 1074 := by
    rw [← hO, ← Nat.mul_assoc]
    exact Nat.mul_le_mul_right _ (by omega)
  obtain ⟨H, hH, b1, b2, b3, b4⟩ := end_near ug q1 p2 p3 q4 v1 v2
  have hK : (1 : Int) * 2 ^ (2147 - L - k) = ((2 ^ (2147 - L - k) : Nat) : Int) := by rw [Int.one_mul, Int.natCast_pow]; rfl
  have hs' : Fv (Float64.ldexp Float64.one (-((L + k : Int) - 1073))) (((2 ^ (2147 - L - k) : Nat) : Int)) := by
    have := hs
    unfold Dy at this
    rw [hK] at this
    exact this
  have hKpos := Nat.two_pow_pos (2147 - L - k)
  have hP : 2 ^ (2147 - L - k) * 2 ^ (L + k + 3) = 4 * (2 ^ 1074 * 2 ^ 1074) := by
    rw [← Nat.pow_add, show 2147 - L - k + (L + k + 3) = 2 + (1074 + 1074) by omega, Nat.pow_add, Nat.pow_add 2 1074]
  have hP2 : 2 ^ (2147 - L - k) * 2 ^ (L + k + 3 - 53) ≤ 2 ^ 1074 * 2 ^ 1024 := by
    rw [← Nat.pow_add, ← Nat.pow_add]
    exact Nat.pow_le_pow_right (by decide) (by omega)
  obtain ⟨R, hR, dR⟩ := div_err (P := L + k + 3) hH hs' (by omega) (by omega) (by omega) (by
    rw [Int.natAbs_natCast, Int.natAbs_natCast, hP, ← Nat.mul_assoc]
    exact Nat.mul_le_mul_right _ (by omega))
  refine ⟨R, H, hR, fun G O U => ?_⟩
  rw [U.g, U.o]
  refine ⟨?_, b1, b2, b3, b4⟩
  rw [Int.natAbs_natCast, ← hK, Int.one_mul] at dR
  have e1 : ((2 : Int) ^ 1074) = ((2 ^ 1074 : Nat) : Int) := by simp
  rw [e1] at dR
  exact Nat.le_trans dR hP2
end Mine

end FL7
section FL8
open PySem PySem.W PySem.Calls PyProof.Rows
open PySem.Builtin.Math
set_option linter.unusedVariables false
set_option exponentiation.threshold 3000
namespace Mine
open PySem.Float64 (V Right dist infMag pack decode val sgn)
theorem gt_fv {x y : UInt64} {a b : Int} (hx : Fv x a) (hy : Fv y b) : Float64.gt x y = decide (b < a) := cmp_gt hx hy
theorem pow_pos_int (k : Nat) : (0 : Int) < 2 ^ k := Int.pow_pos (by decide)
theorem dy_lt {a b : Int} {k : Nat} : a * 2 ^ k < b * 2 ^ k ↔ a < b := Int.mul_lt_mul_right (pow_pos_int k)
theorem dy_inj {a b : Int} {k : Nat} : a * 2 ^ k = b * 2 ^ k ↔ a = b := ⟨fun h => Int.eq_of_mul_eq_mul_right (Int.ne_of_gt (pow_pos_int k)) h, fun h => by rw [h]⟩
theorem max_two {A B : UInt64} {n1 n2 k : Nat} (hA : Dy A (n1 : Int) k) (hB : Dy B (n2 : Int) k) : ∃ M : Nat, Dy (maxMagnitude [A, B]) (M : Int) k ∧ n1 ≤ M ∧ n2 ≤ M ∧ (M = n1 ∨ M = n2) := by
  have hm : maxMagnitude [A, B] = if Float64.gt B (if Float64.gt A (Float64.zero false) then A else Float64.zero false) then B else (if Float64.gt A (Float64.zero false) then A else Float64.zero false) := rfl
  have h0 : Dy (Float64.zero false) ((0 : Nat) : Int) k := dy_zero (fv_zero false) k
  have h1 : Dy (if Float64.gt A (Float64.zero false) then A else Float64.zero false) (n1 : Int) k := by
    rw [gt_fv hA h0]
    by_cases h : n1 = 0
    · subst h
      split
      · exact hA
      · exact h0
    · rw [decide_eq_true (dy_lt.mpr (by omega)), if_pos rfl]
      exact hA
  rw [hm]
  generalize (if Float64.gt A (Float64.zero false) then A else Float64.zero false) = m1 at *
  rw [gt_fv hB h1]
  by_cases h : n1 < n2
  · rw [decide_eq_true (dy_lt.mpr (by omega)), if_pos rfl]
    exact ⟨n2, hB, by omega, by omega, .inr rfl⟩
  · rw [decide_eq_false (fun h' => h (by have := dy_lt.mp h'; omega)), if_neg (by decide)]
    exact ⟨n1, h1, by omega, by omega, .inl rfl⟩
theorem fv_flags {x : UInt64} {v : Int} (h : Fv x v) : Float64.isInf x = false ∧ Float64.isNaN x = false ∧ Float64.isZero x = decide (v = 0) := by
  obtain ⟨s, m, e, hd, rfl⟩ := h
  refine ⟨by unfold Float64.isInf; rw [hd], by unfold Float64.isNaN; rw [hd], ?_⟩
  unfold Float64.isZero
  rw [hd, Float64.val_eq hd]
  cases m with
  | zero => simp [sgn_eq]
  | succ m =>
    have hp : 0 < (m + 1) * 2 ^ (e + 1074).toNat := Nat.mul_pos (by omega) (Nat.two_pow_pos _)
    generalize (m + 1) * 2 ^ (e + 1074).toNat = z at *
    symm
    apply decide_eq_false
    rw [sgn_eq]
    split <;> omega
theorem log_ex {M : Nat} (h : 0 < M) : ∃ L, 2 ^ L ≤ M ∧ M < 2 ^ (L + 1) := ⟨M.log2, Nat.log2_self_le (by omega), Nat.lt_log2_self⟩
theorem vec_two {A B : UInt64} {n1 n2 k : Nat} (hA : Dy A (n1 : Int) k) (hB : Dy B (n2 : Int) k) (hk : 102 ≤ k) :
    ∃ (big : UInt64) (M : Nat), Dy big (M : Int) k ∧ n1 ≤ M ∧ n2 ≤ M ∧ (M = n1 ∨ M = n2) ∧ vectorNorm [A, B] = if M = 0 then big else scaledNorm [A, B] big := by
  obtain ⟨M, hM, m1, m2, m3⟩ := max_two hA hB
  refine ⟨_, M, hM, m1, m2, m3, ?_⟩
  obtain ⟨f1, f2, f3⟩ := fv_flags hM
  obtain ⟨_, fA, _⟩ := fv_flags hA
  obtain ⟨_, fB, _⟩ := fv_flags hB
  unfold vectorNorm
  simp only [f1, f3, List.any_cons, List.any_nil, fA, fB, List.length_cons, List.length_nil]
  by_cases h : M = 0
  · subst h
    simp
  · have hz : decide ((M : Int) * 2 ^ k = 0) = false := by
      apply decide_eq_false
      have := Int.mul_pos (show (0 : Int) < M by omega) (pow_pos_int k)
      omega
    obtain ⟨L, hL1, hL2⟩ := log_ex (show 0 < M by omega)
    rw [hz, frexp_exp hM hL1 hL2, if_neg h]
    have hE : ¬ ((L + k : Int) - 1073 < -1023) := by omega
    simp [hE]
theorem norm_exact {A B : UInt64} {n1 n2 : Int} {c k : Nat} (hA : Dy A n1 k) (hB : Dy B n2 k) (h1 : n1.natAbs < 2 ^ 25) (h2 : n2.natAbs < 2 ^ 25) (hc : n1 * n1 + n2 * n2 = c * c) (hk1 : 102 ≤ k) (hk2 : k ≤ 2000) :
    Dy (vectorNorm [Float64.abs A, Float64.abs B]) (c : Int) k := by
  obtain ⟨big, M, hM, m1, m2, m3, hv⟩ := vec_two (dy_abs hA) (dy_abs hB) hk1
  rw [hv]
  have hcn : n1.natAbs * n1.natAbs + n2.natAbs * n2.natAbs = c * c := by
    have e1 := Int.natAbs_mul_self' n1
    have e2 := Int.natAbs_mul_self' n2
    omega
  by_cases h : M = 0
  · rw [if_pos h]
    have c0 : c = 0 := by
      have z1 : n1.natAbs = 0 := by omega
      have z2 : n2.natAbs = 0 := by omega
      rw [z1, z2] at hcn
      rcases Nat.eq_zero_or_pos c with h | h
      · exact h
      · have := Nat.mul_pos h h; omega
    rw [c0, ← h]
    exact hM
  · rw [if_neg h]
    obtain ⟨L, hL1, hL2⟩ := log_ex (show 0 < M by omega)
    have hL : L ≤ 24 := by
      have := two_pow_between (b := 24) hL1 (by omega)
      exact this
    refine scaled_exact (dy_abs hA) (dy_abs hB) hM hL1 hL2 m1 m2 hcn ?_ hL hk1 hk2
    rcases Nat.eq_zero_or_pos c with h' | h'
    · exfalso
      rw [h'] at hcn
      have z1 : n1.natAbs * n1.natAbs = 0 := by omega
      have z2 : n2.natAbs * n2.natAbs = 0 := by omega
      have := Nat.mul_eq_zero.mp z1
      have := Nat.mul_eq_zero.mp z2
      omega
    · exact h'
/-- the norm is not negative, and meets a candidate only where the squares meet -/
theorem norm_near {A B : UInt64} {n1 n2 : Int} {k : Nat} (hA : Dy A n1 k) (hB : Dy B n2 k) (h1 : n1.natAbs < 2 ^ 20) (h2 : n2.natAbs < 2 ^ 20) (hk1 : 102 ≤ k) (hk2 : k ≤ 2000) :
    ∃ R : Int, Fv (vectorNorm [Float64.abs A, Float64.abs B]) R ∧ 0 ≤ R ∧ ∀ e : Nat, R = e * 2 ^ k → n1.natAbs * n1.natAbs + n2.natAbs * n2.natAbs = e * e := by
  obtain ⟨big, M, hM, m1, m2, m3, hv⟩ := vec_two (dy_abs hA) (dy_abs hB) hk1
  rw [hv]
  by_cases h : M = 0
  · rw [if_pos h]
    refine ⟨_, hM, Int.mul_nonneg (by omega) (Int.le_of_lt (pow_pos_int k)), fun e he => ?_⟩
    have := dy_inj.mp he
    have z1 : n1.natAbs = 0 := by omega
    have z2 : n2.natAbs = 0 := by omega
    have z3 : e = 0 := by omega
    rw [z1, z2, z3]
  · rw [if_neg h]
    obtain ⟨L, hL1, hL2⟩ := log_ex (show 0 < M by omega)
    have hL : L ≤ 19 := two_pow_between (b := 19) hL1 (by omega)
    obtain ⟨R, H, hR, hf⟩ := scaled_near (dy_abs hA) (dy_abs hB) hM hL1 hL2 m1 m2 m3 (by omega) hk1 hk2
    generalize hN : n1.natAbs * n1.natAbs + n2.natAbs * n2.natAbs = N at *
    obtain ⟨d1, d2, d3, d4, d5⟩ := hf _ _ ug
    have hOG : (2 : Nat) ^ 1074 = 2 ^ 50 * 2 ^ 1024 := by rw [← Nat.pow_add]
    have hG0 : 0 < (2 : Nat) ^ 1024 := Nat.two_pow_pos _
    have hQ : 1024 * ((2 : Nat) ^ 1074 * 2 ^ 1024) ≤ 2 ^ (1073 - L) * 2 ^ (1073 - L) := by
      rw [show (1024 : Nat) = 2 ^ 10 by rfl, ← Nat.pow_add, ← Nat.pow_add, ← Nat.pow_add]
      exact Nat.pow_le_pow_right (by decide) (by omega)
    have hNN : N * 2 ^ (1072 - 2 * L) * 2 ^ 1074 = N * (2 ^ (1073 - L) * 2 ^ (1073 - L)) := by
      rw [Nat.mul_assoc, ← Nat.pow_add, ← Nat.pow_add]
      congr 2
      omega
    rw [hNN] at d4 d5
    have hE : ∀ e : Nat, R = e * 2 ^ k → (R * 2 ^ (2147 - L - k) : Int) = ((e * 2 ^ (1073 - L) * 2 ^ 1074 : Nat) : Int) := by
      rintro e rfl
      rw [Int.mul_assoc, ← Int.pow_add, Nat.mul_assoc, ← Nat.pow_add, Int.natCast_mul, Int.natCast_pow, show k + (2147 - L - k) = 1073 - L + 1074 by omega]
      rfl
    have hKp := pow_pos_int (2147 - L - k)
    generalize hO : (2 : Nat) ^ 1074 = O at *
    generalize hG : (2 : Nat) ^ 1024 = G at *
    generalize (2 : Nat) ^ (1073 - L) = Z at *
    have hOH : O * O ≤ 3 * (H * O) := by rw [← Nat.mul_assoc]; exact Nat.mul_le_mul_right O d3
    have hOG2 : O * O = 2 ^ 50 * (O * G) := by
      conv => lhs; rhs; rw [hOG]
      ac_rfl
    have hOGp : 0 < O * G := Nat.mul_pos (by omega) hG0
    have hHO : ((H * O : Nat) : Int) = (H : Int) * O := Int.natCast_mul _ _
    rw [← hHO] at d1
    refine ⟨R, hR, ?_, fun e he => ?_⟩
    · rcases Int.lt_or_le R 0 with hlt | hge
      · exfalso
        have := Int.mul_neg_of_neg_of_pos hlt hKp
        generalize R * 2 ^ (2147 - L - k) = RK at *
        generalize H * O = HO at *
        generalize O * G = OG at *
        omega
      · exact hge
    · rw [hE e he] at d1
      have c1 : e * Z * O ≤ (H + G) * O := by
        rw [Nat.add_mul, Nat.mul_comm G O]
        generalize e * Z * O = EO at *
        generalize H * O = HO at *
        generalize O * G = OG at *
        omega
      have c2 : H * O ≤ (e * Z + G) * O := by
        rw [Nat.add_mul, Nat.mul_comm G O]
        generalize e * Z * O = EO at *
        generalize H * O = HO at *
        generalize O * G = OG at *
        omega
      have c1' := Nat.le_of_mul_le_mul_right c1 (by omega)
      have c2' := Nat.le_of_mul_le_mul_right c2 (by omega)
      have s1 := sq_close (K := O) (a := e * Z) (b := H) (G := G) (by omega) (by omega) (by omega)
      have s2 := sq_close (K := O) (a := H) (b := e * Z) (G := G) (by omega) (by omega) (by omega)
      have ee : e * Z * (e * Z) = e * e * (Z * Z) := by ac_rfl
      rw [ee] at s1 s2
      rcases Nat.lt_trichotomy N (e * e) with hl | hl | hl
      · exfalso
        have := Nat.mul_le_mul_right (Z * Z) (show N + 1 ≤ e * e from hl)
        rw [Nat.add_mul, Nat.one_mul] at this
        generalize N * (Z * Z) = a1 at *
        generalize e * e * (Z * Z) = a2 at *
        generalize Z * Z = a3 at *
        generalize O * G = OG at *
        generalize H * H = HH at *
        omega
      · exact hl
      · exfalso
        have := Nat.mul_le_mul_right (Z * Z) (show e * e + 1 ≤ N from hl)
        rw [Nat.add_mul, Nat.one_mul] at this
        generalize N * (Z * Z) = a1 at *
        generalize e * e * (Z * Z) = a2 at *
        generalize Z * Z = a3 at *
        generalize O * G = OG at *
        generalize H * H = HH at *
        omega
theorem norm_cmp {A B C : UInt64} {n1 n2 e : Int} {k : Nat} (hA : Dy A n1 k) (hB : Dy B n2 k) (hC : Dy C e k) (h0 : 0 ≤ e) (h1 : n1.natAbs < 2 ^ 20) (h2 : n2.natAbs < 2 ^ 20) (hk1 : 102 ≤ k) (hk2 : k ≤ 2000) :
    (Float64.cmp (vectorNorm [Float64.abs A, Float64.abs B]) C == some Ordering.eq) = decide (n1 * n1 + n2 * n2 = e * e) := by
  by_cases h : n1 * n1 + n2 * n2 = e * e
  · have := norm_exact (c := e.toNat) hA hB (by omega) (by omega) (by rw [Int.toNat_of_nonneg h0]; exact h) hk1 hk2
    rw [Int.toNat_of_nonneg h0] at this
    rw [cmp_eq this hC, decide_eq_true h, decide_eq_true rfl]
  · obtain ⟨R, hR, _, hf⟩ := norm_near hA hB h1 h2 hk1 hk2
    rw [cmp_eq hR hC, decide_eq_false h, decide_eq_false]
    intro hr
    apply h
    have := hf e.toNat (by rw [Int.toNat_of_nonneg h0]; exact hr)
    have e1 := Int.natAbs_mul_self' n1
    have e2 := Int.natAbs_mul_self' n2
    have e3 : ((e.toNat * e.toNat : Nat) : Int) = e * e := by rw [Int.natCast_mul, Int.toNat_of_nonneg h0]
    omega
theorem nn_norm {A B : UInt64} {n1 n2 : Int} {k : Nat} (hA : Dy A n1 k) (hB : Dy B n2 k) (h1 : n1.natAbs < 2 ^ 20) (h2 : n2.natAbs < 2 ^ 20) (hk1 : 102 ≤ k) (hk2 : k ≤ 2000) :
    NN (vectorNorm [Float64.abs A, Float64.abs B]) := by
  obtain ⟨R, hR, h0, _⟩ := norm_near hA hB h1 h2 hk1 hk2
  exact nn_fv hR h0
end Mine

end FL8
section FLr
open PySem PySem.W PySem.Calls PyProof.Rows
open PySem.Builtin.Math (vectorNorm)
set_option linter.unusedVariables false
set_option exponentiation.threshold 3000
namespace Mine
open PySem.Float64 (V Right dist infMag pack decode val sgn)
theorem sgn_int (v : Int) : sgn (decide (v < 0)) v.natAbs = v := by
  rw [sgn_eq]
  by_cases hn : v < 0
  · rw [decide_eq_true hn, if_pos rfl]; omega
  · rw [decide_eq_false hn, if_neg (by decide)]; omega
theorem dy_frac {v : Int} {d j k : Nat} {neg : Bool} (hn : neg = decide (v < 0)) (hd : d = 2 ^ j) (hjk : k + j = 1074) (hv : v.natAbs < 2 ^ 53) : Dy (Float64.ofFrac neg v.natAbs d) v k := by
  subst hn hd
  have hr := Float64.ofFrac_right (neg := decide (v < 0)) (n := v.natAbs) (d := 2 ^ j) (W := v.natAbs * 2 ^ k) (D := 1) (Nat.two_pow_pos _) (by
    rw [Nat.mul_one, Nat.mul_assoc, ← Nat.pow_add, hjk]) (by decide)
  obtain ⟨t, ht, hlt, hV⟩ := right_exact (q := v.natAbs) (j := k) hr (by decide) (by rw [Nat.one_mul]) hv (by omega)
  rw [ht]
  have := fv_pack (decide (v < 0)) hlt
  rw [hV, sgn_add_pow, sgn_int] at this
  exact this
abbrev m8 (m : Int) : UInt64 := Float64.ofFrac (decide (m < 0) != decide ((8 : Int) < 0)) m.natAbs (Int.natAbs 8)
abbrev s600 (s : Int) : UInt64 := Float64.ofFrac (decide (s < 0) != decide ((2 : Int) ^ Int.toNat 600 < 0)) s.natAbs ((2 : Int) ^ Int.toNat 600).natAbs
theorem dy_m8 {m : Int} (h : -1048576 < m ∧ m < 1048576) : Dy (m8 m) m 1071 :=
  dy_frac (j := 3) (by rw [show decide ((8 : Int) < 0) = false by decide, Bool.bne_false]) (by decide) (by decide) (by omega)
theorem dy_s600 {s : Int} (h : 0 ≤ s ∧ s ≤ 1000) : Dy (s600 s) s 474 :=
  dy_frac (j := 600) (by
    have : ¬ ((2 : Int) ^ Int.toNat 600 < 0) := by have := pow_pos_int (Int.toNat 600); omega
    rw [decide_eq_false this, Bool.bne_false]) (by rw [Int.natAbs_pow]; rfl) (by decide) (by omega)
theorem nn_s {S : UInt64} {s : Int} (h : Dy S s 474) (h0 : 0 ≤ s) : NN S := nn_fv h (Int.mul_nonneg h0 (Int.le_of_lt (pow_pos_int _)))
theorem nz_abs {k : Int} (h : k.natAbs < 2 ^ 63) (h0 : k ≠ 0) : ¬ Float64.isZero (Float64.abs (Float64.ofInt k)) = true := by
  obtain ⟨t, ht, hle, hov, hn⟩ := Float64.ofInt_right k
  have hW : k.natAbs * 2 ^ 1074 ≤ 1 * (2 ^ 52 * 2 ^ 1085) := by
    rw [Nat.one_mul, ← Nat.pow_add, show 52 + 1085 = 63 + 1074 by rfl, Nat.pow_add]
    exact Nat.mul_le_mul_right _ (by omega)
  have hlt : t < infMag := Nat.lt_of_le_of_ne hle fun e => not_over (q := 2 ^ 52) (j := 1085) (by decide) hW (by decide) (by decide) (hov.mp e)
  obtain ⟨t0, _, hV0⟩ := repr_V 1074 1 (by decide) (by decide)
  have h1 := (hn hlt t0).1
  rw [hV0, Nat.one_mul, Nat.one_mul, Nat.one_mul] at h1
  have h2 : 2 ^ 1074 ≤ k.natAbs * 2 ^ 1074 := Nat.le_mul_of_pos_left _ (by omega)
  have h3 : 0 < (2 : Nat) ^ 1074 := Nat.two_pow_pos _
  have hVt : V t ≠ 0 := by
    intro e
    rw [e] at h1
    clear hW hov hn hV0 hle hlt
    generalize k.natAbs * 2 ^ 1074 = W at h1 h2
    generalize (2 : Nat) ^ 1074 = O at h1 h2 h3
    unfold Float64.dist at h1
    omega
  have hF := fv_abs (fv_pack (decide (k < 0)) hlt)
  rw [← ht] at hF
  rw [(fv_flags hF).2.2]
  intro h
  have := of_decide_eq_true h
  rw [Float64.sgn_natAbs] at this
  omega
theorem ab_le {a b : Int} {A B : Nat} (ha : a.natAbs ≤ A) (hb : b.natAbs ≤ B) : (a * b).natAbs ≤ A * B := by
  rw [Int.natAbs_mul]; exact Nat.mul_le_mul ha hb
theorem dy_wi {S : UInt64} {s w : Int} {k A B : Nat} (h : Dy S s k) (ha : s.natAbs ≤ A) (hb : w.natAbs ≤ B) (hAB : A * B < 2 ^ 53) (hB : B < 2 ^ 53) (hk : k ≤ 2000) : Dy (Float64.mul S (Float64.ofInt w)) (s * w) k :=
  dy_mul h (dy_ofInt (by omega)) (Nat.lt_of_le_of_lt (ab_le ha hb) hAB) (by omega) (by omega)
theorem dy_wa {S : UInt64} {s w : Int} {k A B : Nat} (h : Dy S s k) (ha : s.natAbs ≤ A) (hb : w.natAbs ≤ B) (hAB : A * B < 2 ^ 53) (hB : B < 2 ^ 53) (hk : k ≤ 2000) : Dy (Float64.mul S (Float64.abs (Float64.ofInt w))) (s * (w.natAbs : Int)) k :=
  dy_mul h (dy_abs (dy_ofInt (by omega))) (Nat.lt_of_le_of_lt (ab_le ha (by omega)) hAB) (by omega) (by omega)
theorem nn_uv {S : UInt64} {s u v : Int} (h : Dy S s 474) (h0 : 0 ≤ s ∧ s ≤ 1000) (hu : u.natAbs < 1024) (hv : v.natAbs < 1024) : NN (vectorNorm [Float64.abs (Float64.mul S (Float64.abs (Float64.ofInt u))), Float64.abs (Float64.mul S (Float64.abs (Float64.ofInt v)))]) := by
  have a1 := dy_wa (A := 1000) (B := 1023) h (by omega) (show u.natAbs ≤ 1023 by omega) (by decide) (by decide) (by decide)
  have a2 := dy_wa (A := 1000) (B := 1023) h (by omega) (show v.natAbs ≤ 1023 by omega) (by decide) (by decide) (by decide)
  have b1 : (s * (u.natAbs : Int)).natAbs ≤ 1000 * 1023 := ab_le (by omega) (by omega)
  have b2 : (s * (v.natAbs : Int)).natAbs ≤ 1000 * 1023 := ab_le (by omega) (by omega)
  exact nn_norm a1 a2 (by omega) (by omega) (by decide) (by decide)
end Mine

end FLr
section M3r
open PySem PySem.W PySem.Calls PyProof.Rows
open PySem.Builtin.Math (vectorNorm)
set_option linter.unusedVariables false
namespace Mine
theorem p_bnd {p n : Int} (h : p = 2 + Int.fmod n 4) : 2 ≤ p ∧ p ≤ 5 := by
  have h1 := Int.fmod_nonneg_of_pos n (b := 4) (by decide)
  have h2 := Int.fmod_lt_of_pos n (b := 4) (by decide)
  omega
theorem q_bnd {p q x : Int} (h : q = 1 + Int.fmod x (p - 1)) (hp : 2 ≤ p) : 1 ≤ q ∧ q ≤ p - 1 := by
  have h1 := Int.fmod_nonneg_of_pos x (b := p - 1) (by omega)
  have h2 := Int.fmod_lt_of_pos x (b := p - 1) (by omega)
  omega
theorem sp_bnd {s n : Int} (h : s = 1 + Int.fmod n 1000) : 1 ≤ s ∧ s ≤ 1000 := by
  have h1 := Int.fmod_nonneg_of_pos n (b := 1000) (by decide)
  have h2 := Int.fmod_lt_of_pos n (b := 1000) (by decide)
  omega
theorem fm20 (x : Int) : (Int.fmod x (2 ^ Int.toNat 20)).natAbs < 2 ^ 22 := by
  have h1 := Int.fmod_nonneg_of_pos x (b := 2 ^ Int.toNat 20) (by decide)
  have h2 := Int.fmod_lt_of_pos x (b := 2 ^ Int.toNat 20) (by decide)
  have h3 : (2 : Int) ^ Int.toNat 20 = 1048576 := by decide
  omega
/-- all that is known of the triangle: its sides, and c by Pythagoras -/
def Tri (a b c : Int) : Prop := ((3 ≤ a ∧ a ≤ 24) ∧ (4 ≤ b ∧ b ≤ 40) ∧ (5 ≤ c ∧ c ≤ 41) ∧ a + b ≤ 49) ∧ a * a + b * b = c * c
theorem abc_bnd {p q a b c : Int} (hp : 2 ≤ p ∧ p ≤ 5) (hq : 1 ≤ q ∧ q ≤ p - 1) (ha : a = p * p - q * q) (hb : b = 2 * p * q) (hc : c = p * p + q * q) : Tri a b c := by
  obtain ⟨p1, p2⟩ := hp
  obtain ⟨q1, q2⟩ := hq
  have h : p = 2 ∨ p = 3 ∨ p = 4 ∨ p = 5 := by omega
  have h' : q = 1 ∨ q = 2 ∨ q = 3 ∨ q = 4 := by omega
  unfold Tri
  rcases h with rfl | rfl | rfl | rfl <;> rcases h' with rfl | rfl | rfl | rfl <;> first | omega | (subst ha hb hc; decide)
def Pm (f : Int) : Prop := f = 1 ∨ f = -1
theorem pm_of {f x : Int} (h : f = 1 - 2 * Int.fmod x 2) : Pm f := by
  have h1 := Int.fmod_nonneg_of_pos x (b := 2) (by decide)
  have h2 := Int.fmod_lt_of_pos x (b := 2) (by decide)
  unfold Pm
  omega
theorem pm_abs {f : Int} (h : Pm f) : f.natAbs = 1 := by rcases h with rfl | rfl <;> rfl
theorem pm_mul {f x : Int} (h : Pm f) : (f * x).natAbs = x.natAbs := by rw [Int.natAbs_mul, pm_abs h, Nat.one_mul]
theorem pm_ne {f : Int} (h : Pm f) : f ≠ 0 := by rcases h with rfl | rfl <;> decide
theorem tri_r {a b c r : Int} (H : Tri a b c) (hr : r = a * a + a * b + b * b) : 37 ≤ r ∧ r ≤ 3136 := by
  obtain ⟨⟨⟨a1, a2⟩, ⟨b1, b2⟩, _, _⟩, _⟩ := H
  have e1 : (a * a).natAbs ≤ 24 * 24 := ab_le (by omega) (by omega)
  have e2 : (a * b).natAbs ≤ 24 * 40 := ab_le (by omega) (by omega)
  have e3 : (b * b).natAbs ≤ 40 * 40 := ab_le (by omega) (by omega)
  have f1 : 3 * 3 ≤ a * a := Int.mul_le_mul a1 a1 (by omega) (by omega)
  have f2 : 3 * 4 ≤ a * b := Int.mul_le_mul a1 b1 (by omega) (by omega)
  have f3 : 4 * 4 ≤ b * b := Int.mul_le_mul b1 b1 (by omega) (by omega)
  omega
theorem tri_p {a b c f g h : Int} (H : Tri a b c) (hf : Pm f) (hg : Pm g) (hh : Pm h) :
    ((f * a * (a + b)).natAbs : Int) = a * (a + b) ∧ ((g * b * (a + b)).natAbs : Int) = b * (a + b) ∧ ((h * a * b).natAbs : Int) = a * b ∧ (f * a * (a + b)).natAbs ≤ 1176 ∧ (g * b * (a + b)).natAbs ≤ 1960 ∧ (h * a * b).natAbs ≤ 960 := by
  obtain ⟨⟨⟨a1, a2⟩, ⟨b1, b2⟩, _, ab⟩, _⟩ := H
  have e1 : (a * (a + b)).natAbs ≤ 24 * 49 := ab_le (by omega) (by omega)
  have e2 : (b * (a + b)).natAbs ≤ 40 * 49 := ab_le (by omega) (by omega)
  have e3 : (a * b).natAbs ≤ 24 * 40 := ab_le (by omega) (by omega)
  have p1 : 0 ≤ a * (a + b) := Int.mul_nonneg (by omega) (by omega)
  have p2 : 0 ≤ b * (a + b) := Int.mul_nonneg (by omega) (by omega)
  have p3 : 0 ≤ a * b := Int.mul_nonneg (by omega) (by omega)
  rw [Int.mul_assoc f, Int.mul_assoc g, Int.mul_assoc h, pm_mul hf, pm_mul hg, pm_mul hh]
  omega
theorem prods {a b c r f g h : Int} (H : Tri a b c) (hr : r = a * a + a * b + b * b) (hf : Pm f) (hg : Pm g) (hh : Pm h) :
    (1 ≤ r ∧ r ≤ 5000) ∧
    (f * a * (a + b)).natAbs < 2 ^ 63 ∧ (g * b * (a + b)).natAbs < 2 ^ 63 ∧ (h * a * b).natAbs < 2 ^ 63 ∧ (a * b * (a + b) * r).natAbs < 2 ^ 63 ∧
    (f * b * r).natAbs < 2 ^ 63 ∧ (g * a * r).natAbs < 2 ^ 63 ∧ (h * (a + b) * r).natAbs < 2 ^ 63 ∧ (-a * b * (a + b)).natAbs < 2 ^ 63 ∧
    f * b * r ≠ 0 ∧ g * a * r ≠ 0 ∧ h * (a + b) * r ≠ 0 ∧ -a * b * (a + b) ≠ 0 := by
  obtain ⟨r1, r2⟩ := tri_r H hr
  obtain ⟨_, _, _, q1, q2, q3⟩ := tri_p H hf hg hh
  obtain ⟨⟨⟨a1, a2⟩, ⟨b1, b2⟩, _, ab⟩, _⟩ := H
  have z1 := pm_ne hf
  have z2 := pm_ne hg
  have z3 := pm_ne hh
  have y1 := pm_abs hf
  have y2 := pm_abs hg
  have y3 := pm_abs hh
  have e4 : (a * b * (a + b) * r).natAbs ≤ 24 * 40 * 49 * 3136 := ab_le (ab_le (ab_le (by omega) (by omega)) (by omega)) (by omega)
  have e5 : (f * b * r).natAbs ≤ 1 * 40 * 3136 := ab_le (ab_le (by omega) (by omega)) (by omega)
  have e6 : (g * a * r).natAbs ≤ 1 * 24 * 3136 := ab_le (ab_le (by omega) (by omega)) (by omega)
  have e7 : (h * (a + b) * r).natAbs ≤ 1 * 49 * 3136 := ab_le (ab_le (by omega) (by omega)) (by omega)
  have e8 : (-a * b * (a + b)).natAbs ≤ 24 * 40 * 49 := ab_le (ab_le (by omega) (by omega)) (by omega)
  refine ⟨⟨by omega, by omega⟩, by omega, by omega, by omega, by omega, by omega, by omega, by omega, by omega, ?_, ?_, ?_, ?_⟩
  · exact Int.mul_ne_zero (Int.mul_ne_zero z1 (by omega)) (by omega)
  · exact Int.mul_ne_zero (Int.mul_ne_zero z2 (by omega)) (by omega)
  · exact Int.mul_ne_zero (Int.mul_ne_zero z3 (by omega)) (by omega)
  · exact Int.mul_ne_zero (Int.mul_ne_zero (by omega) (by omega)) (by omega)
theorem many_bnd {a b c f g h y : Int} (H : Tri a b c) (hf : Pm f) (hg : Pm g) (hh : Pm h) (hy : y = f * a * (a + b) + g * b * (a + b) - h * a * b) : y.natAbs < 2 ^ 20 := by
  obtain ⟨_, _, _, q1, q2, q3⟩ := tri_p H hf hg hh
  omega
section
variable {XM XS MM MS : UInt64} {m s a b c f g h r y : Int}
/-- the sum of three weighed copies: mean and deviation -/
theorem sum3 {P Q R A1 A2 A3 B1 B2 B3 : UInt64} {m s a b c p q w r : Int} (hP : Dy A1 (m * p) 1071) (hQ : Dy A2 (m * q) 1071) (hR : Dy A3 (m * w) 1071)
    (hp : Dy B1 (s * (p.natAbs : Int)) 474) (hq : Dy B2 (s * (q.natAbs : Int)) 474) (hw : Dy B3 (s * (w.natAbs : Int)) 474) (hms : (-1048576 < m ∧ m < 1048576) ∧ 0 ≤ s ∧ s ≤ 1000) (H : Tri a b c) (hr : r = a * a + a * b + b * b)
    (e1 : (p.natAbs : Int) = a * (a + b)) (e2 : (q.natAbs : Int) = b * (a + b)) (e3 : (w.natAbs : Int) = a * b) (b1 : p.natAbs ≤ 1176) (b2 : q.natAbs ≤ 1960) (b3 : w.natAbs ≤ 960) :
    NN (vectorNorm [Float64.abs B1, Float64.abs B2]) ∧ NN (vectorNorm [Float64.abs (vectorNorm [Float64.abs B1, Float64.abs B2]), Float64.abs B3]) ∧
    Dy (Float64.sub (Float64.add A1 A2) A3) (m * (p + q - w)) 1071 ∧ Dy (vectorNorm [Float64.abs (vectorNorm [Float64.abs B1, Float64.abs B2]), Float64.abs B3]) (s * r) 474 := by
  obtain ⟨r1, r2⟩ := tri_r H hr
  obtain ⟨⟨⟨a1, a2⟩, ⟨c1, c2⟩, ⟨d1, d2⟩, ab⟩, hpy⟩ := H
  have m1 : (m * p).natAbs ≤ 1048576 * 1176 := ab_le (by omega) b1
  have m2 : (m * q).natAbs ≤ 1048576 * 1960 := ab_le (by omega) b2
  have m3 : (m * w).natAbs ≤ 1048576 * 960 := ab_le (by omega) b3
  have s1 : (s * (p.natAbs : Int)).natAbs ≤ 1000 * 1176 := ab_le (by omega) (by omega)
  have s2 : (s * (q.natAbs : Int)).natAbs ≤ 1000 * 1960 := ab_le (by omega) (by omega)
  have s3 : (s * (w.natAbs : Int)).natAbs ≤ 1000 * 960 := ab_le (by omega) (by omega)
  have n1 : 0 ≤ s * (c * (a + b)) := Int.mul_nonneg (by omega) (Int.mul_nonneg (by omega) (by omega))
  have n2 : 0 ≤ s * r := Int.mul_nonneg (by omega) (by omega)
  have s4 : (s * (c * (a + b))).natAbs ≤ 1000 * (41 * 49) := ab_le (by omega) (ab_le (by omega) (by omega))
  have h1 := norm_exact (c := (s * (c * (a + b))).toNat) hp hq (by omega) (by omega) (by
    rw [Int.toNat_of_nonneg n1, e1, e2]
    grind) (by decide) (by decide)
  rw [Int.toNat_of_nonneg n1] at h1
  have h2 := norm_exact (c := (s * r).toNat) h1 hw (by omega) (by omega) (by
    rw [Int.toNat_of_nonneg n2, e3]
    grind) (by decide) (by decide)
  rw [Int.toNat_of_nonneg n2] at h2
  have h3 := dy_sub (dy_add hP hQ (by omega) (by decide)) hR (by omega) (by decide)
  rw [← Int.mul_add, ← Int.mul_sub] at h3
  exact ⟨nn_fv h1 (Int.mul_nonneg n1 (Int.le_of_lt (pow_pos_int _))), nn_fv h2 (Int.mul_nonneg n2 (Int.le_of_lt (pow_pos_int _))), h3, h2⟩
theorem made3 (hM : Dy XM m 1071) (hS : Dy XS s 474) (hms : (-1048576 < m ∧ m < 1048576) ∧ 0 ≤ s ∧ s ≤ 1000) (H : Tri a b c) (hr : r = a * a + a * b + b * b) (hf : Pm f) (hg : Pm g) (hh : Pm h)
    (hy : y = f * a * (a + b) + g * b * (a + b) - h * a * b) :
    NN (vectorNorm [Float64.abs (Float64.mul XS (Float64.abs (Float64.ofInt (f * a * (a + b))))), Float64.abs (Float64.mul XS (Float64.abs (Float64.ofInt (g * b * (a + b)))))]) ∧
    NN (vectorNorm [Float64.abs (vectorNorm [Float64.abs (Float64.mul XS (Float64.abs (Float64.ofInt (f * a * (a + b))))), Float64.abs (Float64.mul XS (Float64.abs (Float64.ofInt (g * b * (a + b)))))]), Float64.abs (Float64.mul XS (Float64.abs (Float64.ofInt (h * a * b))))]) ∧
    Dy (Float64.sub (Float64.add (Float64.mul XM (Float64.ofInt (f * a * (a + b)))) (Float64.mul XM (Float64.ofInt (g * b * (a + b))))) (Float64.mul XM (Float64.ofInt (h * a * b)))) (m * y) 1071 ∧
    Dy (vectorNorm [Float64.abs (vectorNorm [Float64.abs (Float64.mul XS (Float64.abs (Float64.ofInt (f * a * (a + b))))), Float64.abs (Float64.mul XS (Float64.abs (Float64.ofInt (g * b * (a + b)))))]), Float64.abs (Float64.mul XS (Float64.abs (Float64.ofInt (h * a * b))))]) (s * r) 474 := by
  obtain ⟨e1, e2, e3, b1, b2, b3⟩ := tri_p H hf hg hh
  have := sum3 (P := 0) (Q := 0) (R := 0) (dy_wi (A := 1048576) (B := 1176) hM (by omega) b1 (by decide) (by decide) (by decide)) (dy_wi (A := 1048576) (B := 1960) hM (by omega) b2 (by decide) (by decide) (by decide)) (dy_wi (A := 1048576) (B := 960) hM (by omega) b3 (by decide) (by decide) (by decide))
    (dy_wa (A := 1000) (B := 1176) hS (by omega) b1 (by decide) (by decide) (by decide)) (dy_wa (A := 1000) (B := 1960) hS (by omega) b2 (by decide) (by decide) (by decide)) (dy_wa (A := 1000) (B := 960) hS (by omega) b3 (by decide) (by decide) (by decide)) hms H hr e1 e2 e3 b1 b2 b3
  rw [← hy] at this
  exact this
theorem wid1 (a b r f : Int) (x : f * f = 1) : a * b * (a + b) * r = f * a * (a + b) * (f * b * r) := by grind
theorem wid2 (a b r g : Int) (x : g * g = 1) : a * b * (a + b) * r = g * b * (a + b) * (g * a * r) := by grind
theorem wid3 (a b r h : Int) (x : h * h = 1) : a * b * (a + b) * r = h * a * b * (h * (a + b) * r) := by grind
theorem wid4 (a b r : Int) : a * b * (a + b) * r = -r * (-a * b * (a + b)) := by grind
theorem dv {W d q : Int} {B C : Nat} (hM : Dy XM m 1071) (hS : Dy XS s 474) (hms : (-1048576 < m ∧ m < 1048576) ∧ 0 ≤ s ∧ s ≤ 1000) (hW : W = q * d) (hd : d ≠ 0) (hB : W.natAbs ≤ B) (hB2 : B ≤ 2 ^ 31) (hq : q.natAbs ≤ 2 ^ 31) (hdd : d.natAbs < 2 ^ 53) :
    Dy (Float64.div (Float64.mul XM (Float64.ofInt W)) (Float64.ofInt d)) (m * q) 1071 ∧ Dy (Float64.div (Float64.mul XS (Float64.abs (Float64.ofInt W))) (Float64.abs (Float64.ofInt d))) (s * (q.natAbs : Int)) 474 := by
  have h1 := dy_wi (A := 1048576) (B := 2 ^ 31) hM (by omega) (show W.natAbs ≤ 2 ^ 31 by omega) (by decide) (by decide) (by decide)
  have h2 := dy_wa (A := 1000) (B := 2 ^ 31) hS (by omega) (show W.natAbs ≤ 2 ^ 31 by omega) (by decide) (by decide) (by decide)
  have h3 := dy_ofInt (i := d) (by omega)
  have b1 : (m * q).natAbs ≤ 1048576 * 2 ^ 31 := ab_le (by omega) hq
  have b2 : (s * (q.natAbs : Int)).natAbs ≤ 1000 * 2 ^ 31 := ab_le (by omega) (by omega)
  have e1 : m * W = m * q * d := by rw [hW, Int.mul_assoc]
  have e2 : s * (W.natAbs : Int) = s * (q.natAbs : Int) * (d.natAbs : Int) := by rw [hW, Int.natAbs_mul, Int.natCast_mul, Int.mul_assoc]
  rw [e1] at h1
  rw [e2] at h2
  exact ⟨dy_div h1 h3 hd (by omega) (by decide) (by decide), dy_div h2 (dy_abs h3) (by omega) (by omega) (by decide) (by decide)⟩
theorem dec_eq {x y : Int} {k : Nat} {p : Prop} [Decidable p] (h : x = y ↔ p) : decide (x * 2 ^ k = y * 2 ^ k) = decide p := decide_eq_decide.mpr (dy_inj.trans h)
theorem sub_zero_iff {m x y : Int} : m * x = m * y ↔ m * (x - y) = 0 := by rw [Int.mul_sub]; omega
theorem abs_if (e : Int) : (e.natAbs : Int) = if e < 0 then -e else e := by split <;> omega
theorem sq_iff {s u v e : Int} : s * (u.natAbs : Int) * (s * (u.natAbs : Int)) + s * (v.natAbs : Int) * (s * (v.natAbs : Int)) = s * (e.natAbs : Int) * (s * (e.natAbs : Int)) ↔ s * (u * u + v * v - e * e) = 0 := by
  have e1 := Int.natAbs_mul_self' u
  have e2 := Int.natAbs_mul_self' v
  have e3 := Int.natAbs_mul_self' e
  generalize (u.natAbs : Int) = U at *
  generalize (v.natAbs : Int) = W at *
  generalize (e.natAbs : Int) = E at *
  have key : s * U * (s * U) + s * W * (s * W) - s * E * (s * E) = s * (s * (u * u + v * v - e * e)) := by grind
  constructor
  · intro h
    have h0 : s * (s * (u * u + v * v - e * e)) = 0 := by rw [← key]; omega
    rcases Int.mul_eq_zero.mp h0 with h | h
    · rw [h, Int.zero_mul]
    · exact h
  · intro h
    rw [h, Int.mul_zero] at key
    omega
theorem ckE {e : Int} (hM : Dy XM m 1071) (hS : Dy XS s 474) (hms : (-1048576 < m ∧ m < 1048576) ∧ 0 ≤ s ∧ s ≤ 1000) (h1 : Dy MM (m * y) 1071) (h2 : Dy MS (s * r) 474) (hy : y.natAbs < 2 ^ 20) (hr : 1 ≤ r ∧ r ≤ 5000) (he : e.natAbs < 2 ^ 22) :
    (Float64.cmp MM (Float64.mul XM (Float64.ofInt e)) == some Ordering.eq && Float64.cmp MS (Float64.mul XS (Float64.abs (Float64.ofInt e))) == some Ordering.eq) = (decide (m * (y - e) = 0) && decide (s * (r - (if e < 0 then -e else e)) = 0)) := by
  have a1 := dy_wi (A := 1048576) (B := 2 ^ 22) hM (by omega) (show e.natAbs ≤ 2 ^ 22 by omega) (by decide) (by decide) (by decide)
  have a2 := dy_wa (A := 1000) (B := 2 ^ 22) hS (by omega) (show e.natAbs ≤ 2 ^ 22 by omega) (by decide) (by decide) (by decide)
  rw [cmp_eq h1 a1, cmp_eq h2 a2, dec_eq sub_zero_iff, dec_eq sub_zero_iff, abs_if]
theorem whole3 (hM : Dy XM m 1071) (hS : Dy XS s 474) (hms : (-1048576 < m ∧ m < 1048576) ∧ 0 ≤ s ∧ s ≤ 1000) (H : Tri a b c) (hr : r = a * a + a * b + b * b) (hf : Pm f) (hg : Pm g) (hh : Pm h)
    (hy : y = f * a * (a + b) + g * b * (a + b) - h * a * b) (h1 : Dy MM (m * y) 1071) (h2 : Dy MS (s * r) 474) :
    NN (vectorNorm [Float64.abs (Float64.div (Float64.mul XS (Float64.abs (Float64.ofInt (a * b * (a + b) * r)))) (Float64.abs (Float64.ofInt (f * b * r)))), Float64.abs (Float64.div (Float64.mul XS (Float64.abs (Float64.ofInt (a * b * (a + b) * r)))) (Float64.abs (Float64.ofInt (g * a * r))))]) ∧
    NN (vectorNorm [Float64.abs (vectorNorm [Float64.abs (Float64.div (Float64.mul XS (Float64.abs (Float64.ofInt (a * b * (a + b) * r)))) (Float64.abs (Float64.ofInt (f * b * r)))), Float64.abs (Float64.div (Float64.mul XS (Float64.abs (Float64.ofInt (a * b * (a + b) * r)))) (Float64.abs (Float64.ofInt (g * a * r))))]), Float64.abs (Float64.div (Float64.mul XS (Float64.abs (Float64.ofInt (a * b * (a + b) * r)))) (Float64.abs (Float64.ofInt (h * (a + b) * r))))]) ∧
    (Float64.cmp (Float64.sub (Float64.add (Float64.div (Float64.mul XM (Float64.ofInt (a * b * (a + b) * r))) (Float64.ofInt (f * b * r))) (Float64.div (Float64.mul XM (Float64.ofInt (a * b * (a + b) * r))) (Float64.ofInt (g * a * r)))) (Float64.div (Float64.mul XM (Float64.ofInt (a * b * (a + b) * r))) (Float64.ofInt (h * (a + b) * r)))) MM == some Ordering.eq &&
     Float64.cmp (vectorNorm [Float64.abs (vectorNorm [Float64.abs (Float64.div (Float64.mul XS (Float64.abs (Float64.ofInt (a * b * (a + b) * r)))) (Float64.abs (Float64.ofInt (f * b * r)))), Float64.abs (Float64.div (Float64.mul XS (Float64.abs (Float64.ofInt (a * b * (a + b) * r)))) (Float64.abs (Float64.ofInt (g * a * r))))]), Float64.abs (Float64.div (Float64.mul XS (Float64.abs (Float64.ofInt (a * b * (a + b) * r)))) (Float64.abs (Float64.ofInt (h * (a + b) * r))))]) MS == some Ordering.eq) = true := by
  obtain ⟨e1, e2, e3, b1, b2, b3⟩ := tri_p H hf hg hh
  obtain ⟨hr1, kk1, kk2, kk3, kk4, kk5, kk6, kk7, kk8, nz1, nz2, nz3, nz4⟩ := prods H hr hf hg hh
  obtain ⟨r1, r2⟩ := tri_r H hr
  have hT := H
  obtain ⟨⟨⟨a1, a2⟩, ⟨c1, c2⟩, _, ab⟩, _⟩ := hT
  have y1 := pm_abs hf
  have y2 := pm_abs hg
  have y3 := pm_abs hh
  have x1 : f * f = 1 := by rcases hf with rfl | rfl <;> rfl
  have x2 : g * g = 1 := by rcases hg with rfl | rfl <;> rfl
  have x3 : h * h = 1 := by rcases hh with rfl | rfl <;> rfl
  have bW : (a * b * (a + b) * r).natAbs ≤ 24 * 40 * 49 * 3136 := ab_le (ab_le (ab_le (by omega) (by omega)) (by omega)) (by omega)
  have e5 : (f * b * r).natAbs ≤ 1 * 40 * 3136 := ab_le (ab_le (by omega) (by omega)) (by omega)
  have e6 : (g * a * r).natAbs ≤ 1 * 24 * 3136 := ab_le (ab_le (by omega) (by omega)) (by omega)
  have e7 : (h * (a + b) * r).natAbs ≤ 1 * 49 * 3136 := ab_le (ab_le (by omega) (by omega)) (by omega)
  obtain ⟨p1, p2⟩ := dv (q := f * a * (a + b)) (d := f * b * r) (C := 0) hM hS hms (wid1 _ _ _ _ x1) nz1 bW (by decide) (by omega) (by omega)
  obtain ⟨q1, q2⟩ := dv (q := g * b * (a + b)) (d := g * a * r) (C := 0) hM hS hms (wid2 _ _ _ _ x2) nz2 bW (by decide) (by omega) (by omega)
  obtain ⟨w1, w2⟩ := dv (q := h * a * b) (d := h * (a + b) * r) (C := 0) hM hS hms (wid3 _ _ _ _ x3) nz3 bW (by decide) (by omega) (by omega)
  obtain ⟨n1, n2, n3, n4⟩ := sum3 (P := 0) (Q := 0) (R := 0) p1 q1 w1 p2 q2 w2 hms H hr e1 e2 e3 b1 b2 b3
  refine ⟨n1, n2, ?_⟩
  rw [← hy] at n3
  rw [cmp_eq n3 h1, cmp_eq n4 h2, decide_eq_true rfl, decide_eq_true rfl]
  rfl
theorem neg4 (hM : Dy XM m 1071) (hS : Dy XS s 474) (hms : (-1048576 < m ∧ m < 1048576) ∧ 0 ≤ s ∧ s ≤ 1000) (H : Tri a b c) (hr : r = a * a + a * b + b * b) :
    (Float64.cmp (Float64.div (Float64.mul XM (Float64.ofInt (a * b * (a + b) * r))) (Float64.ofInt (-a * b * (a + b)))) (Float64.mul XM (Float64.ofInt (-r))) == some Ordering.eq &&
     Float64.cmp (Float64.div (Float64.mul XS (Float64.abs (Float64.ofInt (a * b * (a + b) * r)))) (Float64.abs (Float64.ofInt (-a * b * (a + b))))) (Float64.mul XS (Float64.abs (Float64.ofInt (-r)))) == some Ordering.eq) = true := by
  obtain ⟨r1, r2⟩ := tri_r H hr
  obtain ⟨⟨⟨a1, a2⟩, ⟨c1, c2⟩, _, ab⟩, _⟩ := H
  have bW : (a * b * (a + b) * r).natAbs ≤ 24 * 40 * 49 * 3136 := ab_le (ab_le (ab_le (by omega) (by omega)) (by omega)) (by omega)
  have bd : (-a * b * (a + b)).natAbs ≤ 24 * 40 * 49 := ab_le (ab_le (by omega) (by omega)) (by omega)
  have nz : -a * b * (a + b) ≠ 0 := Int.mul_ne_zero (Int.mul_ne_zero (by omega) (by omega)) (by omega)
  obtain ⟨p1, p2⟩ := dv (q := -r) (d := -a * b * (a + b)) (C := 0) hM hS hms (wid4 _ _ _) nz bW (by decide) (by omega) (by omega)
  have a1 := dy_wi (A := 1048576) (B := 3136) hM (by omega) (show (-r).natAbs ≤ 3136 by omega) (by decide) (by decide) (by decide)
  have a2 := dy_wa (A := 1000) (B := 3136) hS (by omega) (show (-r).natAbs ≤ 3136 by omega) (by decide) (by decide) (by decide)
  rw [cmp_eq p1 a1, cmp_eq p2 a2, decide_eq_true rfl, decide_eq_true rfl]
  rfl
theorem quarter (hM : Dy XM m 1071) (hS : Dy XS s 474) (hms : (-1048576 < m ∧ m < 1048576) ∧ 0 ≤ s ∧ s ≤ 1000) (hr : 1 ≤ r ∧ r ≤ 5000) :
    (Float64.cmp (Float64.mul (Float64.mul XM (Float64.ofFrac (decide (r < 0) != decide ((4 : Int) < 0)) r.natAbs (Int.natAbs 4))) (Float64.ofInt 4)) (Float64.mul XM (Float64.ofInt r)) == some Ordering.eq &&
     Float64.cmp (Float64.mul (Float64.mul XS (Float64.abs (Float64.ofFrac (decide (r < 0) != decide ((4 : Int) < 0)) r.natAbs (Int.natAbs 4)))) (Float64.abs (Float64.ofInt 4))) (Float64.mul XS (Float64.abs (Float64.ofInt r))) == some Ordering.eq) = true := by
  have hq : Dy (Float64.ofFrac (decide (r < 0) != decide ((4 : Int) < 0)) r.natAbs (Int.natAbs 4)) r 1072 :=
    dy_frac (j := 2) (by rw [show decide ((4 : Int) < 0) = false by decide, Bool.bne_false]) (by decide) (by decide) (by omega)
  generalize Float64.ofFrac (decide (r < 0) != decide ((4 : Int) < 0)) r.natAbs (Int.natAbs 4) = Q at *
  have b1 : (m * r).natAbs ≤ 1048576 * 5000 := ab_le (by omega) (by omega)
  have b2 : (s * (r.natAbs : Int)).natAbs ≤ 1000 * 5000 := ab_le (by omega) (by omega)
  have four := dy_ofInt (i := 4) (by decide)
  have x1 := dy_mul (l := 1069) hM hq (by omega) (by decide) (by decide)
  have x2 := dy_mul (l := 1069) x1 four (by omega) (by decide) (by decide)
  have z1 := dy_mul (l := 472) hS (dy_abs hq) (by omega) (by decide) (by decide)
  have z2 := dy_mul (l := 472) z1 (dy_abs four) (by rw [show ((Int.natAbs 4 : Nat) : Int) = 4 by rfl]; omega) (by decide) (by decide)
  have a1 := dy_wi (A := 1048576) (B := 5000) hM (by omega) (show r.natAbs ≤ 5000 by omega) (by decide) (by decide) (by decide)
  have a2 := dy_wa (A := 1000) (B := 5000) hS (by omega) (show r.natAbs ≤ 5000 by omega) (by decide) (by decide) (by decide)
  have a1' := dy_scale (j := 2) (l := 1069) a1 (by decide)
  have a2' := dy_scale (j := 2) (l := 472) a2 (by decide)
  rw [cmp_eq x2 a1', cmp_eq z2 a2', dec_eq (p := True) (by simp), dec_eq (p := True) (by simp)]
  rfl
theorem ckA {u v e : Int} (hM : Dy XM m 1071) (hS : Dy XS s 474) (hms : (-1048576 < m ∧ m < 1048576) ∧ 0 ≤ s ∧ s ≤ 1000) (hu : u.natAbs < 1024 ∧ v.natAbs < 1024) (he : e.natAbs < 2048) :
    (Float64.cmp (Float64.add (Float64.mul XM (Float64.ofInt u)) (Float64.mul XM (Float64.ofInt v))) (Float64.mul XM (Float64.ofInt e)) == some Ordering.eq &&
     Float64.cmp (vectorNorm [Float64.abs (Float64.mul XS (Float64.abs (Float64.ofInt u))), Float64.abs (Float64.mul XS (Float64.abs (Float64.ofInt v)))]) (Float64.mul XS (Float64.abs (Float64.ofInt e))) == some Ordering.eq) = (decide (m * (u + v - e) = 0) && decide (s * (u * u + v * v - e * e) = 0)) := by
  obtain ⟨hu, hv⟩ := hu
  have u1 := dy_wi (A := 1048576) (B := 2048) hM (by omega) (show u.natAbs ≤ 2048 by omega) (by decide) (by decide) (by decide)
  have v1 := dy_wi (A := 1048576) (B := 2048) hM (by omega) (show v.natAbs ≤ 2048 by omega) (by decide) (by decide) (by decide)
  have e1 := dy_wi (A := 1048576) (B := 2048) hM (by omega) (show e.natAbs ≤ 2048 by omega) (by decide) (by decide) (by decide)
  have u2 := dy_wa (A := 1000) (B := 2048) hS (by omega) (show u.natAbs ≤ 2048 by omega) (by decide) (by decide) (by decide)
  have v2 := dy_wa (A := 1000) (B := 2048) hS (by omega) (show v.natAbs ≤ 2048 by omega) (by decide) (by decide) (by decide)
  have e2 := dy_wa (A := 1000) (B := 2048) hS (by omega) (show e.natAbs ≤ 2048 by omega) (by decide) (by decide) (by decide)
  have b1 : (m * u).natAbs ≤ 1048576 * 2048 := ab_le (by omega) (by omega)
  have b2 : (m * v).natAbs ≤ 1048576 * 2048 := ab_le (by omega) (by omega)
  have c1 : (s * (u.natAbs : Int)).natAbs ≤ 1000 * 1023 := ab_le (by omega) (by omega)
  have c2 : (s * (v.natAbs : Int)).natAbs ≤ 1000 * 1023 := ab_le (by omega) (by omega)
  have hs := dy_add u1 v1 (by omega) (by decide)
  rw [cmp_eq hs e1, norm_cmp u2 v2 e2 (Int.mul_nonneg hms.2.1 (by omega)) (by omega) (by omega) (by decide) (by decide)]
  congr 1
  · refine dec_eq ?_
    rw [Int.mul_sub, Int.mul_add]
    omega
  · exact decide_eq_decide.mpr sq_iff
theorem ckB {u v e : Int} (hM : Dy XM m 1071) (hS : Dy XS s 474) (hms : (-1048576 < m ∧ m < 1048576) ∧ 0 ≤ s ∧ s ≤ 1000) (hu : u.natAbs < 1024 ∧ v.natAbs < 1024) (he : e.natAbs < 2048) :
    (Float64.cmp (Float64.sub (Float64.mul XM (Float64.ofInt u)) (Float64.mul XM (Float64.ofInt v))) (Float64.mul XM (Float64.ofInt e)) == some Ordering.eq &&
     Float64.cmp (vectorNorm [Float64.abs (Float64.mul XS (Float64.abs (Float64.ofInt u))), Float64.abs (Float64.mul XS (Float64.abs (Float64.ofInt v)))]) (Float64.mul XS (Float64.abs (Float64.ofInt e))) == some Ordering.eq) = (decide (m * (u - v - e) = 0) && decide (s * (u * u + v * v - e * e) = 0)) := by
  obtain ⟨hu, hv⟩ := hu
  have u1 := dy_wi (A := 1048576) (B := 2048) hM (by omega) (show u.natAbs ≤ 2048 by omega) (by decide) (by decide) (by decide)
  have v1 := dy_wi (A := 1048576) (B := 2048) hM (by omega) (show v.natAbs ≤ 2048 by omega) (by decide) (by decide) (by decide)
  have e1 := dy_wi (A := 1048576) (B := 2048) hM (by omega) (show e.natAbs ≤ 2048 by omega) (by decide) (by decide) (by decide)
  have u2 := dy_wa (A := 1000) (B := 2048) hS (by omega) (show u.natAbs ≤ 2048 by omega) (by decide) (by decide) (by decide)
  have v2 := dy_wa (A := 1000) (B := 2048) hS (by omega) (show v.natAbs ≤ 2048 by omega) (by decide) (by decide) (by decide)
  have e2 := dy_wa (A := 1000) (B := 2048) hS (by omega) (show e.natAbs ≤ 2048 by omega) (by decide) (by decide) (by decide)
  have b1 : (m * u).natAbs ≤ 1048576 * 2048 := ab_le (by omega) (by omega)
  have b2 : (m * v).natAbs ≤ 1048576 * 2048 := ab_le (by omega) (by omega)
  have c1 : (s * (u.natAbs : Int)).natAbs ≤ 1000 * 1023 := ab_le (by omega) (by omega)
  have c2 : (s * (v.natAbs : Int)).natAbs ≤ 1000 * 1023 := ab_le (by omega) (by omega)
  have hs := dy_sub u1 v1 (by omega) (by decide)
  rw [cmp_eq hs e1, norm_cmp u2 v2 e2 (Int.mul_nonneg hms.2.1 (by omega)) (by omega) (by omega) (by decide) (by decide)]
  congr 1
  · refine dec_eq ?_
    rw [Int.mul_sub, Int.mul_sub]
    omega
  · exact decide_eq_decide.mpr sq_iff
end
theorem bad1 {x : Int} {Q : Bool} (h0 : x ≠ 0) (hb : ((decide (x = 0) && Q) != (x == 0)) = true) : False := by simp [h0] at hb
theorem bad2 {x y : Int} (h0 : x = 0) (hb : ((decide (x = 0) && decide (y = 0)) != (y == 0)) = true) : False := by
  by_cases h : y = 0 <;> simp [h, h0] at hb
theorem forget_xm {h₀ h : Heap} {L l y yd x : Addr} {o od : Obj} {dy dx : Addr} {a b c d : UInt64} {t1 t2 t3 t4 : Tok} {r : List (Addr × Obj)} {n1 n2 n3 n4 : Int} {k1 k2 k3 k4 : Nat} {nd : Addr → Value → Value → Obj}
    (N : News h₀ L h ((l, o) :: (y, nd dy (.float a t1) (.float b t2)) :: (yd, od) :: (x, nd dx (.float c t3) (.float d t4)) :: r)) (h1 : Dy a n1 k1) (h2 : Dy b n2 k2) (h3 : Dy c n3 k3) (h4 : Dy d n4 k4) :
    ∃ a b c d, Dy a n1 k1 ∧ Dy b n2 k2 ∧ Dy c n3 k3 ∧ Dy d n4 k4 ∧ News h₀ L h ((l, o) :: (y, nd dy (.float a t1) (.float b t2)) :: (yd, od) :: (x, nd dx (.float c t3) (.float d t4)) :: r) := ⟨a, b, c, d, h1, h2, h3, h4, N⟩
end Mine

end M3r
section W3c
open PySem PySem.W PySem.Calls PyProof.Rows
set_option Elab.async false
namespace Mine
theorem toks_gen {α : Type} {M : Model} {A : Around} {t : Sem α} {Q : α → Shared → Prop} {E : Value → Shared → Prop} {h : Heap} {g : Array GenState} {d : Drawn} {X : Nat} {o : OsState} (H : ∀ tk, wpAny M A t Q E ⟨h, g, d, tk, o⟩) : wpAny M A t Q E ⟨h, g, d, X, o⟩ := H X
def Stop (p : Prop) : Prop := p
theorem Stop.of {p : Prop} (h : Stop p) : p := h
theorem Stop.goes {p : Prop} (h : p) : Stop p := h
theorem store_gen {M : Model} {A : Around} {env : Env} {x : Str} {e : Int} {t : Tok} {Q : Unit → Shared → Prop} {E : Value → Shared → Prop} {s : Shared} (h : ∀ (v : Int) (t' : Tok), Flt.Hid (v = e) → wpAny M A (storeName env x (.int v t')) Q E s) : wpAny M A (storeName env x (.int e t)) Q E s := h e t ⟨rfl⟩

local macro_rules | `(tactic| walk_at "call ref") => `(tactic| (k_here; (with_reducible show wpAny _ _ (call (Value.ref 270) [Value.float _ _, Value.float _ _] _) _ _ _); k_dflt (refine' mkND ?B ?F ?N ?T ?hf ?hke ?hr ?hs ?_ ?X; (case B => k_asm); (case F => k_asm); (case N => k_asm); (case T => k_asm); (case hf => exact rfl); (case hke => exact rfl); (case hr => first | omega | (simp only [depth_under_make, depth_under_kw, depth_in1, depth_deeper, depth_caller]; decide)); (case hs => first | assumption | exact nn_uv (by assumption) (by omega) (by omega) (by omega)); (case X => k_in)); intro x' d' h' tk' hs' F' N'; (try k_sweep)))
local macro_rules | `(tactic| walk_at "binaryOp Mult ref int") => `(tactic| (k_here; (with_reducible show wpAny _ _ (binaryOp Operator.Mult (Value.ref _) (Value.int _ _)) _ _ _); k_dflt (refine' mul_ri ?B ?F ?N ?T ?hf ?hke ?hr ?hx ?hdx ?hk ?hs ?_ ?X; (case B => k_asm); (case F => k_asm); (case N => k_asm); (case T => k_asm); (case hf => exact rfl); (case hke => exact rfl); (case hr => first | omega | (simp only [depth_under_make, depth_under_kw, depth_in1, depth_deeper, depth_caller]; decide)); (case hx => k_mem); (case hdx => k_mem); (case hk => first | assumption | omega); (case hs => first | assumption | exact nn_mul (by assumption)); (case X => k_in)); intro x' d' h' tk' t1' t2' hs' F' N'; (try k_sweep)))
local macro_rules | `(tactic| walk_at "binaryOp Mult int ref") => `(tactic| (k_here; (with_reducible show wpAny _ _ (binaryOp Operator.Mult (Value.int _ _) (Value.ref _)) _ _ _); k_dflt (refine' mul_ir ?B ?F ?N ?T ?hf ?hke ?hr ?hx ?hdx ?hk ?hs ?_ ?X; (case B => k_asm); (case F => k_asm); (case N => k_asm); (case T => k_asm); (case hf => exact rfl); (case hke => exact rfl); (case hr => first | omega | (simp only [depth_under_make, depth_under_kw, depth_in1, depth_deeper, depth_caller]; decide)); (case hx => k_mem); (case hdx => k_mem); (case hk => first | assumption | omega); (case hs => first | assumption | exact nn_mul (by assumption)); (case X => k_in)); intro x' d' h' tk' t1' t2' hs' F' N'; (try k_sweep)))
local macro_rules | `(tactic| walk_at "binaryOp Mult ref float") => `(tactic| (k_here; (with_reducible show wpAny _ _ (binaryOp Operator.Mult (Value.ref _) (Value.float _ _)) _ _ _); k_dflt (refine' mul_rf ?B ?F ?N ?T ?hf ?hke ?hr ?hx ?hdx ?hs ?_ ?X; (case B => k_asm); (case F => k_asm); (case N => k_asm); (case T => k_asm); (case hf => exact rfl); (case hke => exact rfl); (case hr => first | omega | (simp only [depth_under_make, depth_under_kw, depth_in1, depth_deeper, depth_caller]; decide)); (case hx => k_mem); (case hdx => k_mem); (case hs => first | assumption | exact nn_mul (by assumption)); (case X => k_in)); intro x' d' h' tk' t1' t2' hs' F' N'; (try k_sweep)))
local macro_rules | `(tactic| walk_at "binaryOp Div ref int") => `(tactic| (k_here; (with_reducible show wpAny _ _ (binaryOp Operator.Div (Value.ref _) (Value.int _ _)) _ _ _); k_dflt (refine' div_ri ?B ?F ?N ?T ?hf ?hke ?hr ?hx ?hdx ?hk ?hk0 ?hz ?hs ?_ ?X; (case B => k_asm); (case F => k_asm); (case N => k_asm); (case T => k_asm); (case hf => exact rfl); (case hke => exact rfl); (case hr => first | omega | (simp only [depth_under_make, depth_under_kw, depth_in1, depth_deeper, depth_caller]; decide)); (case hx => k_mem); (case hdx => k_mem); (case hk => first | assumption | omega); (case hk0 => first | assumption | omega); (case hz => exact nz_abs (by first | assumption | omega) (by first | assumption | omega)); (case hs => first | assumption | exact nn_div (by assumption)); (case X => k_in)); intro x' d' h' tk' t1' t2' hs' F' N'; (try k_sweep)))
local macro_rules | `(tactic| walk_at "binaryOp Add ref ref") => `(tactic| (k_here; (with_reducible show wpAny _ _ (binaryOp Operator.Add (Value.ref _) (Value.ref _)) _ _ _); k_dflt (refine' add_rr ?B ?F ?N ?T ?hf ?hke ?hr ?hx ?hdx ?hy ?hdy ?hs ?_ ?X; (case B => k_asm); (case F => k_asm); (case N => k_asm); (case T => k_asm); (case hf => exact rfl); (case hke => exact rfl); (case hr => first | omega | (simp only [depth_under_make, depth_under_kw, depth_in1, depth_deeper, depth_caller]; decide)); (case hx => k_mem); (case hdx => k_mem); (case hy => k_mem); (case hdy => k_mem); (case hs => first | assumption | exact nn_uv (by assumption) (by omega) (by omega) (by omega)); (case X => k_in)); intro x' d' h' tk' t1' t2' hs' F' N'; (try k_sweep)))
local macro_rules | `(tactic| walk_at "binaryOp Sub ref ref") => `(tactic| (k_here; (with_reducible show wpAny _ _ (binaryOp Operator.Sub (Value.ref _) (Value.ref _)) _ _ _); k_dflt (refine' sub_rr ?B ?F ?N ?T ?hf ?hke ?hr ?hx ?hdx ?hy ?hdy ?hs ?_ ?X; (case B => k_asm); (case F => k_asm); (case N => k_asm); (case T => k_asm); (case hf => exact rfl); (case hke => exact rfl); (case hr => first | omega | (simp only [depth_under_make, depth_under_kw, depth_in1, depth_deeper, depth_caller]; decide)); (case hx => k_mem); (case hdx => k_mem); (case hy => k_mem); (case hdy => k_mem); (case hs => first | assumption | exact nn_uv (by assumption) (by omega) (by omega) (by omega)); (case X => k_in)); intro x' d' h' tk' t1' t2' hs' F' N'; (try k_sweep)))
local macro_rules | `(tactic| walk_at "compareOp Eq ref ref") => `(tactic| (k_here; (with_reducible show wpAny _ _ (compareOp CmpOp.Eq (Value.ref _) (Value.ref _)) _ _ _); k_dflt (refine' eq_rr ?B ?F ?N ?T ?hf ?hke ?hr ?hx ?hdx ?hy ?hdy ?hu ?_ ?X; (case B => k_asm); (case F => k_asm); (case N => k_asm); (case T => k_asm); (case hf => exact rfl); (case hke => exact rfl); (case hr => first | omega | (simp only [depth_under_make, depth_under_kw, depth_in1, depth_deeper, depth_caller]; decide)); (case hx => k_mem); (case hdx => k_mem); (case hy => k_mem); (case hdy => k_mem); (case hu => decide); (case X => k_in)); intro h' tk' F' N'; (try k_sweep)))
local macro_rules | `(tactic| walk_at "compareOp NotEq ref ref") => `(tactic| (k_here; (with_reducible show wpAny _ _ (compareOp CmpOp.NotEq (Value.ref _) (Value.ref _)) _ _ _); k_dflt (refine' ne_rr ?B ?F ?N ?T ?hf ?hke ?hr ?hx ?hdx ?hy ?hdy ?hu ?_ ?X; (case B => k_asm); (case F => k_asm); (case N => k_asm); (case T => k_asm); (case hf => exact rfl); (case hke => exact rfl); (case hr => first | omega | (simp only [depth_under_make, depth_under_kw, depth_in1, depth_deeper, depth_caller]; decide)); (case hx => k_mem); (case hdx => k_mem); (case hy => k_mem); (case hdy => k_mem); (case hu => decide); (case X => k_in)); intro h' tk' F' N'; (try k_sweep)))
local macro_rules | `(tactic| walk_at "call ref") => `(tactic| (k_here; (with_reducible show wpAny _ _ (call (Value.ref 281) [Value.int _ _, Value.int _ _] _) _ _ _); k_dflt (refine' near_c ?B ?F ?N ?T ?hf ?hke ?hr ?hb ?_ ?X; (case B => k_asm); (case F => k_asm); (case N => k_asm); (case T => k_asm); (case hf => exact rfl); (case hke => exact rfl); (case hr => first | omega | (simp only [depth_under_make, depth_under_kw, depth_in1, depth_deeper, depth_caller]; decide)); (case hb => decide); (case X => k_in)); intro v' h' tk' t' hv1' hv2' F' N'; (try simp only [Int.reduceToNat, Int.reducePow, Int.reduceNeg] at hv1' hv2'); (try k_sweep)))

local macro_rules | `(tactic| walk_at "exec Return some") => `(tactic| (k_here; (with_reducible show wpAny _ _ (exec (Stmt.Return (some (PySem.Expr.Constant (Const.bool false) _ _)) _) _) _ _ _); refine Stop.of ?_))
local macro_rules | `(tactic| walk_at "exec For Name Call cons nil") => `(tactic| (k_here; (rename Fr _ _ _ _ => lF'); (with_unfolding_all refine' For_turns lF' ?_; k_whole)))
local macro_rules | `(tactic| walk_at "exec For Name List cons nil") => `(tactic| (k_here; (rename Fr _ _ _ _ => lF'); (with_unfolding_all refine' For_turns lF' ?_; k_whole)))
local macro_rules | `(tactic| walk_at "exec For Tuple List cons nil") => `(tactic| (k_here; (rename Fr _ _ _ _ => lF'); (with_unfolding_all refine' For_turns lF' ?_; k_whole)))
local macro_rules | `(tactic| walk_at "eval Call Name") => `(tactic| (k_here; (with_reducible show wpAny _ _ (eval (PySem.Expr.Call (PySem.Expr.Name _ _) _ [] _) _) _ _ _); refine Call_ ?_))
local macro_rules | `(tactic| walk_at "execs cons") => `(tactic| (k_here; (with_reducible refine toks_gen ?_); intro tk'; (with_reducible refine wpAny_execs_cons ?_); (try dsimp only)))
local macro_rules | `(tactic| walk_at "execs nil") => `(tactic| (k_here; (with_reducible refine toks_gen ?_); intro tk'; (with_reducible refine wpAny_execs_nil ?_); (try dsimp only)))
local macro_rules | `(tactic| walk_at "pyIter ref") => `(tactic| (k_here; (with_reducible show wpAny _ _ (pyIter (Value.ref _)) (fun it s₂ => TurnsAt _ _ _ _ _ _ _ _ _ it s₂) _ _); refine Stop.of ?_))
local macro_rules | `(tactic| walk_at "subscriptTail Name") => `(tactic| (k_here; (with_reducible show wpAny _ _ (subscriptTail (PySem.Expr.Name _ _) _ (Value.ref _) (Value.int _ _)) _ _ _); (rename IntsAre _ _ => iaX); (rename Flt.Hid _ => hidX); have hX := hidX.out; k_dflt (refine' item_any ?N ?m iaX ?lo ?hi ?sz ?_ ?hs; (case N => k_asm); (case m => k_mem); (case lo => (simp only [List.length_append, List.length_cons, List.length_nil]; omega)); (case hi => (simp only [List.length_append, List.length_cons, List.length_nil]; omega)); (case sz => (simp only [List.length_append, List.length_cons, List.length_nil]; omega)); (case hs => with_unfolding_all rfl)); clear hX; intro v' t'))
local macro_rules | `(tactic| walk_at "eval ListComp") => `(tactic| (k_here; lcf_look; lcg_calm; k_dflt (refine ListComp_Ut (F₀ := by k_asm) (by with_unfolding_all rfl) (by decide) (by rfl) (by decide) (by rfl) ?_)))
local macro_rules | `(tactic| walk_at "CompSrcT") => `(tactic| (k_here; k_dflt (refine CompSrcT.ledger (by rfl) (by k_asm) (by k_asm) (by k_mem) (by first | size_fits | exact Nat.le_of_ble_eq_true rfl) ?_; intro g'; lcg_lit)))
local macro_rules | `(tactic| lcg_off) => `(tactic| (simp only [LCg.Off3, and_true]; assumption))
local macro_rules | `(tactic| walk_at "exec Assign cons ListComp") => `(tactic| ((with_reducible show wpAny _ _ (exec (Stmt.Assign [PySem.Expr.Tuple _ _ _] _ _) _) _ _ _); refine Assign_Tuple ?_))
local macro_rules | `(tactic| lcg_src) => `(tactic| exact ⟨_, by k_mem, rfl, _, rfl⟩)
local macro_rules | `(tactic| walk_at "storeName") => `(tactic| (k_here; (first
  | (with_reducible show wpAny _ _ (storeName _ _ (Value.int (HAdd.hAdd _ _) _)) _ _ _) | (with_reducible show wpAny _ _ (storeName _ _ (Value.int (HSub.hSub _ _) _)) _ _ _) | (with_reducible show wpAny _ _ (storeName _ _ (Value.int (HMul.hMul _ _) _)) _ _ _)
  | (with_reducible show wpAny _ _ (storeName _ _ (Value.int (Int.fmod _ _) _)) _ _ _) | (with_reducible show wpAny _ _ (storeName _ _ (Value.int (Int.fdiv _ _) _)) _ _ _)); k_dflt (first
  | (refine store_gen ?_; intro v' t' hv'; refine' storeX_L ?F ?N ?_ ?a ?b; (case F => k_asm); (case N => k_asm); (case a => rfl); (case b => rfl); k_whole; intro h' F' N'; (try k_sweep))
  | (refine store_gen ?_; intro v' t' hv'; refine' storeX_C ?F ?N ?c ?U ?d ?_ ?a ?b; (case a => rfl); (case b => rfl); (case F => k_asm); (case N => k_asm); (case c => rfl); (case U => k_updF); (case d => k_asm); k_whole; intro h' o' F' N' d'; (try dsimp only at N'); (try k_sweep)))))
local macro_rules | `(tactic| walk_at "binaryOp Mod int int") => `(tactic| first | ((with_reducible refine mod_int' ?_ ?_); first | decide | assumption | omega) | (refine Stop.of ?_))
local macro_rules | `(tactic| walk_at "binaryOp Mult int int") => `(tactic| first | (with_reducible refine mul_int ?_) | (refine Stop.of ?_))

set_option maxRecDepth 100000 in
set_option maxHeartbeats 0 in
theorem walkT3 : T3 := by
  unfold T3
  k_go0
  all_goals (try k_fold)
  k_steps
  refine Stop.goes ?_
  rename IsRange _ _ _ _ _ _ _ _ => rgX
  rename Fr _ _ _ _ => lF
  rename News _ _ _ _ => lN
  with_unfolding_all refine' range_row (rn := Str.ofString "row") (by rfl) rgX ?small (by exact rangeSize_nat _ _) lF lN (by rfl) (by assumption) ?turn ?done
  case small => exact small_one (by omega) (by omega) (by omega) (by omega)
  case done =>
    intro u h tk oc F' N'
    clear lF lN
    k_steps
  case turn =>
    intro i t u h tk I oI oc v hi hoc F' N' hI1 hI2
    clear lF lN
    dsimp only
    try (rename Ground _ _ _ _ _ _ _ _ _ => c1; clear c1)
    try (rename Hook.says _ _ _ => c1; clear c1)
    try (rename LooseAre _ _ _ => c1; clear c1)
    try (rename Glob _ _ _ _ _ _ _ => c1; clear c1)
    try (rename Tables _ _ _ _ => c1; clear c1)
    try (rename TopE _ _ _ _ => c1; clear c1)
    try (rename TopW _ _ _ => c1; clear c1)
    try (rename BMod _ _ _ _ _ => c1; clear c1)
    try (rename Heap.CodeRec _ _ _ => c1; clear c1)
    try (rename CellsAre _ _ _ => c1; clear c1)
    try (rename Dflts _ _ _ => c1; clear c1)
    try (rename ReadsAll _ _ _ _ => c1; clear c1)
    try (rename Reads _ _ _ _ => c1; clear c1)
    try (rename ReadsAllW _ _ _ _ _ _ => c1; clear c1)
    rename IntsAre _ _ => ia1
    clear rgX
    k_steps
    refine Stop.goes ?_
    rename Flt.Hid (_ = 2 + Int.fmod _ 4) => hp
    have hp2 := p_bnd hp.out
    k_steps
    refine Stop.goes ?_
    rename Flt.Hid (_ = 1 + Int.fmod _ _) => hq
    have hq2 := q_bnd hq.out hp2.1
    k_steps
    refine Stop.goes ?_
    rename Flt.Hid (_ = _ * _ - _ * _) => ha
    rename Flt.Hid (_ = 2 * _ * _) => hb
    rename Flt.Hid (_ = _ * _ + _ * _) => hc
    have hT := Flt.Hid.mk (abc_bnd hp2 hq2 ha.out hb.out hc.out)
    have habc := hT.out.1
    k_steps
    refine Stop.goes ?_
    rename Flt.Hid (_ = 1 + Int.fmod _ 1000) => hsp
    rename Flt.Hid (_ = _ * _ * (_ + _) + _ * _ * (_ + _) - _ * _ * _) => hmany
    rename Flt.Hid (_ = _ * _ + _ * _ + _ * _) => hard
    rename Flt.Hid (_ = 1 - 2 * Int.fmod (Int.fdiv _ 48) 2) => hff
    rename Flt.Hid (_ = 1 - 2 * Int.fmod (Int.fdiv _ 96) 2) => hgg
    rename Flt.Hid (_ = 1 - 2 * Int.fmod (Int.fdiv _ 192) 2) => hhh
    have pf := Flt.Hid.mk (pm_of hff.out)
    have pg := Flt.Hid.mk (pm_of hgg.out)
    have ph := Flt.Hid.mk (pm_of hhh.out)
    obtain ⟨hr1, kk1, kk2, kk3, kk4, kk5, kk6, kk7, kk8, nz1, nz2, nz3, nz4⟩ := prods hT.out hard.out pf.out pg.out ph.out
    have hmb := many_bnd hT.out pf.out pg.out ph.out hmany.out
    have hspb := sp_bnd hsp.out
    rename Fr _ _ _ _ => lF
    rename News _ _ _ _ => lN0
    have lN := news_keep lN0 [true, true, true, true, false, false, false, false, false, false, true, true, true]
    dsimp only [keepB] at lN
    clear lN0
    refine' list_still (["m", "s", "x", "made", "e", "whole", "u", "v"].map Str.ofString) (by rfl) lF lN ?hm ?hc ?hd ?turn ?done
    case hm => k_mem
    case hc => rfl
    case hd => rfl
    case done =>
      clear lF lN
      intro u' h' tk' F' N'
      k_steps
      refine' TEnd.intro ?fF ?fN ?fI ?fS ?fO (rowJ_intro ?fr ?fc)
      case fF => assumption
      case fN => assumption
      case fI => k_mem
      case fr => rfl
      case fc => assumption
      case fS => (simp only [List.forall_mem_cons]; exact ⟨by k_mem, by k_mem, fun _ h => nomatch h⟩)
      case fO => (simp only [List.forall_mem_cons]; exact ⟨fun e => hI1 e.symm, fun e => hI2 e.symm, fun _ h => nomatch h⟩)
    case turn =>
      clear lF lN
      intro v' u' h' tk' I' oI' hv' F' N0 hI'
      obtain ⟨T1, m1, s1, tm1, ts1, rfl, hms, N'⟩ := pick3 (P := fun m s => (-1048576 < m ∧ m < 1048576) ∧ 0 ≤ s ∧ s ≤ 1000) N0 hv' ⟨_, _, _, _, _, rfl, (by k_mem), (by dsimp only; omega)⟩ ⟨_, _, _, _, _, rfl, (by k_mem), (by dsimp only; omega)⟩ ⟨_, _, _, _, _, rfl, (by k_mem), (by dsimp only; omega)⟩
      clear N0
      have hM0 := dy_m8 hms.1
      have hS0 := dy_s600 hms.2
      have hS0n := nn_s hS0 hms.2.1
      obtain ⟨nn1, nn2, hMM0, hMS0⟩ := made3 hM0 hS0 hms hT.out hard.out pf.out pg.out ph.out hmany.out
      k_steps
      refine Stop.goes ?_
      rename Fr _ _ _ _ => lF
      rename News _ _ _ _ => lN0
      have lN1 := news_keep lN0 [true, true, true, false, false, false, false, false, false, false, false, true, true, true, true, true, true, true, true, true, true, true, true]
      dsimp only [keepB] at lN1
      clear lN0
      obtain ⟨MM, MS, XM, XS, hMM, hMS, hM, hS, lN⟩ := forget_xm (nd := ndO) lN1 hMM0 hMS0 hM0 hS0
      clear lN1 hMM0 hMS0 hM0 hS0 nn1 nn2 hS0n
      have hSn := nn_s hS hms.2.1
      refine' list_still (["e"].map Str.ofString) (by rfl) lF lN ?hm ?hc ?hd ?turn ?done
      case hm => k_mem
      case hc => rfl
      case hd => rfl
      case turn =>
        clear lF lN
        intro v2 u2 h2 tk2 I2 oI2 hv2 F' N' hI2
        obtain ⟨e1, te, rfl, he1⟩ := pick_int (P := fun e => e.natAbs < 2 ^ 22) hv2 (by
          intro x hx
          simp only [List.mem_cons, List.not_mem_nil, or_false] at hx
          rcases hx with rfl | rfl | rfl | rfl | rfl <;> first | exact ⟨_, _, rfl, fm20 _⟩ | exact ⟨_, _, rfl, by omega⟩)
        clear hv2
        have hE := ckE hM hS hms hMM hMS hmb hr1 he1
        k_steps
        all_goals first
          | (refine Stop.goes ?_; exfalso; rename ((_ != _) = true) => hbad; rw [hE] at hbad; first | exact bad1 (by assumption) hbad | exact bad2 (by assumption) hbad)
          | (refine' TEnd.still ?fF ?fN hI2 ?fI ?fS ?fM; (case fF => assumption); (case fN => assumption); (case fI => k_mem); (case fS => (intro p hp; k_ownIn)); (case fM => repeat' (first | exact still_refl | refine still_if (by rfl) ?_ | refine still_sub (by rfl) ?_)))
      case done =>
        clear lF lN
        intro u2 h2 tk2 F' N'
        obtain ⟨nn3, nn4, hW⟩ := whole3 hM hS hms hT.out hard.out pf.out pg.out ph.out hmany.out hMM hMS
        have hN4 := neg4 hM hS hms hT.out hard.out
        have hQ4 := quarter hM hS hms hr1
        k_steps
        refine Stop.goes ?_
        clear nn3 nn4 hW hN4 hQ4
        rename Fr _ _ _ _ => lF
        rename News _ _ _ _ => lN0
        have lN := news_keep lN0 [true, true, true, true, false, false, false, false, false, false, false, false, false, false, false, false, false, false, false, false, false, false, false, false, false, false, false, false, false, true, true, false, true, true, true, true, true, true, true, true]
        dsimp only [keepB] at lN
        clear lN0
        refine' list_still (["u", "v", "e"].map Str.ofString) (by rfl) lF lN ?hm ?hc ?hd ?turn ?done
        case hm => k_mem
        case hc => rfl
        case hd => rfl
        case done =>
          clear lF lN
          intro u3 h3 tk3 F' N'
          k_steps
          (refine' TEnd.still ?fF ?fN hI' ?fI ?fS ?fM; (case fF => assumption); (case fN => assumption); (case fI => k_mem); (case fS => (intro p hp; k_ownIn)); (case fM => repeat' (first | exact still_refl | refine still_if (by rfl) ?_ | refine still_sub (by rfl) ?_)))
        case turn =>
          clear lF lN
          intro v3 u3 h3 tk3 I3 oI3 hv3 F' N0 hI3
          obtain ⟨T3, u1, v1, tu1, tv1, rfl, huv, N'⟩ := pick3 (P := fun u v => u.natAbs < 1024 ∧ v.natAbs < 1024) N0 hv3 ⟨_, _, _, _, _, rfl, (by k_mem), (by dsimp only; omega)⟩ ⟨_, _, _, _, _, rfl, (by k_mem), (by dsimp only; omega)⟩ ⟨_, _, _, _, _, rfl, (by k_mem), (by dsimp only; omega)⟩
          clear N0
          k_steps
          refine Stop.goes ?_
          rename Fr _ _ _ _ => lF
          rename News _ _ _ _ => lN0
          have lN := news_keep lN0 [true, false, true, true, true, true, true, true, true, true, true, true, true, true, true, true, true, true]
          dsimp only [keepB] at lN
          clear lN0
          refine' list_still (["e"].map Str.ofString) (by rfl) lF lN ?hm ?hc ?hd ?turn ?done
          case hm => k_mem
          case hc => rfl
          case hd => rfl
          case done =>
            clear lF lN
            intro u4 h4 tk4 F' N'
            k_steps
            (refine' TEnd.still ?fF ?fN hI3 ?fI ?fS ?fM; (case fF => assumption); (case fN => assumption); (case fI => k_mem); (case fS => (intro p hp; k_ownIn)); (case fM => repeat' (first | exact still_refl | refine still_if (by rfl) ?_ | refine still_sub (by rfl) ?_)))
          case turn =>
            clear lF lN
            intro v4 u4 h4 tk4 I4 oI4 hv4 F' N' hI4
            obtain ⟨e2, te2, rfl, he2⟩ := pick_int (P := fun e => e.natAbs < 2048) hv4 (by
              intro x hx
              simp only [List.mem_cons, List.not_mem_nil, or_false] at hx
              rcases hx with rfl | rfl | rfl | rfl <;> exact ⟨_, _, rfl, by omega⟩)
            clear hv4
            have hEA := Flt.Hid.mk (ckA hM hS hms huv he2)
            have hEB := Flt.Hid.mk (ckB hM hS hms huv he2)
            k_steps
            all_goals first
              | (refine Stop.goes ?_; exfalso; rename ((_ != _) = true) => hbad; (first | rw [hEA.out] at hbad | rw [hEB.out] at hbad); first | exact bad1 (by assumption) hbad | exact bad2 (by assumption) hbad)
              | (refine' TEnd.still ?fF ?fN hI4 ?fI ?fS ?fM; (case fF => assumption); (case fN => assumption); (case fI => k_mem); (case fS => (intro p hp; k_ownIn)); (case fM => repeat' (first | exact still_refl | refine still_if (by rfl) ?_ | refine still_sub (by rfl) ?_)))
end Mine

end W3c
section Head
open PySem PySem.W PySem.Calls PyProof.Rows
namespace Mine
theorem head3.tw409017354440738880 : True := trivial
theorem head3.tw6824610258467898464 : True := trivial
theorem head3.tw4689993778679288960 : True := trivial
theorem head3.tw14961508994666259584 : True := trivial
theorem head3.tw7842486471864119424 : True := trivial
theorem head3.tw17973185844464102624 : True := trivial
theorem head3.tw16216326915273150784 : True := trivial
theorem head3.tw3988732671436870976 : True := trivial
theorem head3.tw16653093485985690944 : True := trivial
theorem head3.tw9891514616514048544 : True := trivial
theorem head3.tw818696270510302752 : True := trivial
theorem head3.tw15062568725222431360 : True := trivial
theorem head3.tw9960238727180238528 : True := trivial
theorem head3.tw7331905405203151552 : True := trivial
theorem head3.tw1122984908461795072 : True := trivial
theorem head3.tw15874898407338922784 : True := trivial
theorem head3.tw3164518880882101024 : True := trivial
theorem head3.tw17437638268787726208 : True := trivial
theorem head3.tw13008185423176511360 : True := trivial
theorem head3.tw11589264390581305248 : True := trivial
theorem head3.tw8930865254471228384 : True := trivial
theorem head3.tw7262901474865599521 : True := trivial
theorem head3.tw8198322920785845345 : True := trivial
theorem head3.tw6450572716075807841 : True := trivial
theorem head3.tw2724714178737943681 : True := trivial
theorem head3.tw12985962221795384449 : True := trivial
theorem head3.tw15026122931865496737 : True := trivial
theorem head3.tw13082992909840020673 : True := trivial
theorem head3.tw2166162939541048545 : True := trivial
theorem head3.tw782653358372037889 : True := trivial
theorem head3.tw10765455123703950625 : True := trivial
theorem head3.tw11553590674629037409 : True := trivial
theorem head3.tw15838362778631132577 : True := trivial
theorem head3.tw14638095611493785089 : True := trivial
theorem head3.tw8707427373357127169 : True := trivial
theorem head3.tw16165175296365627937 : True := trivial
theorem head3.tw4369999779786268225 : True := trivial
theorem head3.tw8589975558531630817 : True := trivial
theorem head3.tw15263992877470180097 : True := trivial
theorem head3.tw2426859643016569633 : True := trivial
theorem head3.tw10040840569308511073 : True := trivial
theorem head3.tw2846203386472839009 : True := trivial
theorem head3.tw14979160746125780865 : True := trivial
theorem head3.tw2913423307849080737 : True := trivial
theorem head3.tw4313453657944052673 : True := trivial
theorem head3.tw15931060144204539970 : True := trivial
theorem head3.tw15279375954809908354 : True := trivial
theorem head3.tw14709745901537341570 : True := trivial
theorem head3.tw15825546274798740674 : True := trivial
theorem head3.tw11525116487480057026 : True := trivial
theorem head3.tw14762226236633943266 : True := trivial
theorem head3.tw17056143457261165826 : True := trivial
theorem head3.tw7845776163428708610 : True := trivial
theorem head3.tw13856426532870054146 : True := trivial
theorem head3.tw3921526099507562786 : True := trivial
theorem head3.tw638975441142103394 : True := trivial
theorem head3.tw60432893825239426 : True := trivial
theorem head3.tw1178465590606656898 : True := trivial
theorem head3.tw9499394567370695074 : True := trivial
theorem head3.tw7896242124383104674 : True := trivial
theorem head3.tw3133220733570600610 : True := trivial
theorem head3.tw1393483898513126050 : True := trivial
theorem head3.tw5682638750300676898 : True := trivial
theorem head3.tw11814089228386455330 : True := trivial
theorem head3.tw9954286287565411106 : True := trivial
theorem head3.tw1696078723808209730 : True := trivial
theorem head3.tw6430878597770204002 : True := trivial
theorem head3.tw6188192423237410754 : True := trivial
theorem head3.tw3850829468678133763 : True := trivial
theorem head3.tw4222775910041188387 : True := trivial
theorem head3.tw12264556780499722307 : True := trivial
theorem head3.tw5371669377242384483 : True := trivial
theorem head3.tw16914305611572844675 : True := trivial
theorem head3.tw6552345784722799811 : True := trivial
theorem head3.tw9397986932894291139 : True := trivial
theorem head3.tw7692499052312646915 : True := trivial
theorem head3.tw17497405260491398531 : True := trivial
theorem head3.tw12726860303558993347 : True := trivial
theorem head3.tw1175417139514451427 : True := trivial
theorem head3.tw18446319951831992003 : True := trivial
theorem head3.tw16545947009675819747 : True := trivial
theorem head3.tw6656745763670329059 : True := trivial
theorem head3.tw8524699033055830787 : True := trivial
theorem head3.tw13400332509863874339 : True := trivial
theorem head3.tw9187990516494283555 : True := trivial
theorem head3.tw11372136942524432227 : True := trivial
theorem head3.tw423893887596109731 : True := trivial
theorem head3.tw17408521314096989091 : True := trivial
theorem head3.tw4838286737792980899 : True := trivial
theorem head3.tw6455245499957182371 : True := trivial
theorem head3.tw3864529196567939011 : True := trivial
theorem head3.tw12949372385610527748 : True := trivial
theorem head3.tw14768607259568974884 : True := trivial
theorem head3.tw15299773819147767844 : True := trivial
theorem head3.tw5545773131906880612 : True := trivial
theorem head3.tw15782178949790675076 : True := trivial
theorem head3.tw15199519273965077668 : True := trivial
theorem head3.tw4039420597836258468 : True := trivial
theorem head3.tw12585880550596904164 : True := trivial
theorem head3.tw4673567180096263396 : True := trivial
theorem head3.tw4039121449921831140 : True := trivial
theorem head3.tw14346307056929466660 : True := trivial
theorem head3.tw1310850461335894340 : True := trivial
theorem head3.tw10574887978693136772 : True := trivial
theorem head3.tw4381896003807208836 : True := trivial
theorem head3.tw16161389411858824836 : True := trivial
theorem head3.tw13084774150447493796 : True := trivial
theorem head3.tw5022987639706000100 : True := trivial
theorem head3.tw16375926231543581444 : True := trivial
theorem head3.tw14504684333984389988 : True := trivial
theorem head3.tw17675921267708449668 : True := trivial
theorem head3.tw4872193835808180132 : True := trivial
theorem head3.tw8168040558259522468 : True := trivial
theorem head3.tw10561740218597003172 : True := trivial
theorem head3.tw9241002286451847076 : True := trivial
theorem head3.tw10584560777727887300 : True := trivial
theorem head3.tw10678269112452935620 : True := trivial
theorem head3.tw15280430063587897413 : True := trivial
theorem head3.tw6980357780003123269 : True := trivial
theorem head3.tw17141255910958360677 : True := trivial
theorem head3.tw10633702230425318565 : True := trivial
theorem head3.tw42763822769793285 : True := trivial
theorem head3.tw632324701891338629 : True := trivial
theorem head3.tw11428451519827795365 : True := trivial
theorem head3.tw1060848773894583749 : True := trivial
theorem head3.tw753793626631931429 : True := trivial
theorem head3.tw4711957932619815493 : True := trivial
theorem head3.tw17790299872931036869 : True := trivial
theorem head3.tw781925038811643589 : True := trivial
theorem head3.tw3074384923377646373 : True := trivial
theorem head3.tw10806666756383408933 : True := trivial
theorem head3.tw2007279275116588869 : True := trivial
theorem head3.tw13465104481981407109 : True := trivial
theorem head3.tw13695071349691497381 : True := trivial
theorem head3.tw801375111176565669 : True := trivial
theorem head3.tw3819686296657532869 : True := trivial
theorem head3.tw2705918455645251525 : True := trivial
theorem head3.tw6928951271197991974 : True := trivial
theorem head3.tw16779777157969049670 : True := trivial
theorem head3.tw5870715884235098278 : True := trivial
theorem head3.tw3219325893323373766 : True := trivial
theorem head3.tw3396817393169364198 : True := trivial
theorem head3.tw11520344657042670822 : True := trivial
theorem head3.tw10269757196538889574 : True := trivial
theorem head3.tw194296530941959526 : True := trivial
theorem head3.tw8211981858015257990 : True := trivial
theorem head3.tw15881529857568013702 : True := trivial
theorem head3.tw5397357363771601350 : True := trivial
theorem head3.tw15228315914710243814 : True := trivial
theorem head3.tw9852074973325713894 : True := trivial
theorem head3.tw8834432008258471430 : True := trivial
theorem head3.tw11705722471135220422 : True := trivial
theorem head3.tw11090390427349328582 : True := trivial
theorem head3.tw16771703442307278534 : True := trivial
theorem head3.tw2246410455904456422 : True := trivial
theorem head3.tw4266321810346506982 : True := trivial
theorem head3.tw8743976686040699686 : True := trivial
theorem head3.tw16578951751977402182 : True := trivial
theorem head3.tw10747333007401539398 : True := trivial
theorem head3.tw11528324822068121510 : True := trivial
theorem head3.tw13325276297298200583 : True := trivial
theorem head3.tw18150748545791551559 : True := trivial
theorem head3.tw3100730783235043431 : True := trivial
theorem head3.tw15849734505347197127 : True := trivial
theorem head3.tw18114367629566212295 : True := trivial
theorem head3.tw9262090155125803271 : True := trivial
theorem head3.tw7280760855244677447 : True := trivial
theorem head3.tw4218001212206700903 : True := trivial
theorem head3.tw4197276650477196679 : True := trivial
theorem head3.tw11507910005909027463 : True := trivial
theorem head3.tw16557636865472536231 : True := trivial
theorem head3.tw4245432723469068071 : True := trivial
theorem head3.tw11492644016351855463 : True := trivial
theorem head3.tw7437162941849108423 : True := trivial
theorem head3.tw18345622490234957799 : True := trivial
theorem head3.tw8413457098202551304 : True := trivial
theorem head3.tw7808723746364193832 : True := trivial
theorem head3.tw4537154585794412616 : True := trivial
theorem head3.tw15237643803553660008 : True := trivial
theorem head3.tw17618688783495595208 : True := trivial
theorem head3.tw9312748090066464136 : True := trivial
theorem head3.tw3483222434342217192 : True := trivial
theorem head3.tw15159270063681485320 : True := trivial
theorem head3.tw3638751188512233000 : True := trivial
theorem head3.tw6376727078158557800 : True := trivial
theorem head3.tw15662739439547524744 : True := trivial
theorem head3.tw16820270316872146600 : True := trivial
theorem head3.tw10498563659757330088 : True := trivial
theorem head3.tw13665795171110466248 : True := trivial
theorem head3.tw4928976781607993032 : True := trivial
theorem head3.tw3130711590583978728 : True := trivial
theorem head3.tw2785706775570008808 : True := trivial
theorem head3.tw516671085835278088 : True := trivial
theorem head3.tw1207947389557227304 : True := trivial
theorem head3.tw9714072646250268520 : True := trivial
theorem head3.tw1482612697158865768 : True := trivial
theorem head3.tw17218542752395851752 : True := trivial
theorem head3.tw7403916592741941224 : True := trivial
theorem head3.tw16692905062329226249 : True := trivial
theorem head3.tw12811665680564631561 : True := trivial
theorem head3.tw9401833710864699433 : True := trivial
theorem head3.tw7720111367888420009 : True := trivial
theorem head3.tw18066489428986800489 : True := trivial
theorem head3.tw9134076540294852041 : True := trivial
theorem head3.tw4529021709197061609 : True := trivial
theorem head3.tw3636279965549879785 : True := trivial
theorem head3.tw7717206137391928905 : True := trivial
theorem head3.tw2184273117779177097 : True := trivial
theorem head3.tw14948202005204847273 : True := trivial
theorem head3.tw2629278289993004713 : True := trivial
theorem head3.tw6235344077309901481 : True := trivial
theorem head3.tw15841182502474480297 : True := trivial
theorem head3.tw17900416908275368745 : True := trivial
theorem head3.tw2126932491550352233 : True := trivial
theorem head3.tw11294302092062673833 : True := trivial
theorem head3.tw1455691679367002057 : True := trivial
theorem head3.tw981240533702808553 : True := trivial
theorem head3.tw15982066962234794090 : True := trivial
theorem head3.tw14383662807409045770 : True := trivial
theorem head3.tw17626681114208483594 : True := trivial
theorem head3.tw3927353207119682922 : True := trivial
theorem head3.tw3183394653585651146 : True := trivial
theorem head3.tw11593636546666651146 : True := trivial
theorem head3.tw17933895871431037546 : True := trivial
theorem head3.tw2738786300611678858 : True := trivial
theorem head3.tw14423667701781401226 : True := trivial
theorem head3.tw8294043872426221354 : True := trivial
theorem head3.tw7771272174583768874 : True := trivial
theorem head3.tw764411082875564842 : True := trivial
theorem head3.tw15492664654259998538 : True := trivial
theorem head3.tw13852113006778294122 : True := trivial
theorem head3.tw7946866836526121834 : True := trivial
theorem head3.tw3987839624787251082 : True := trivial
theorem head3.tw5147687936548581290 : True := trivial
theorem head3.tw10815322690216065994 : True := trivial
theorem head3.tw13476439186558493707 : True := trivial
theorem head3.tw13530330204683335723 : True := trivial
theorem head3.tw9300710113529352267 : True := trivial
theorem head3.tw16734807107845756139 : True := trivial
theorem head3.tw451188175217873131 : True := trivial
theorem head3.tw2491863432326881675 : True := trivial
theorem head3.tw15935450136635946411 : True := trivial
theorem head3.tw4641465551561568715 : True := trivial
theorem head3.tw3551394727880803883 : True := trivial
theorem head3.tw12961335298520915659 : True := trivial
theorem head3.tw16747427501792659243 : True := trivial
theorem head3.tw1408831323090154315 : True := trivial
theorem head3.tw12680822368581668715 : True := trivial
theorem head3.tw10910049144882975595 : True := trivial
theorem head3.tw3291910411393632268 : True := trivial
theorem head3.tw16919390598752337964 : True := trivial
theorem head3.tw11696801724006600780 : True := trivial
theorem head3.tw3430215667102896268 : True := trivial
theorem head3.tw10584826326378843308 : True := trivial
theorem head3.tw8068027782916719820 : True := trivial
theorem head3.tw15725069028180942028 : True := trivial
theorem head3.tw616029575159706828 : True := trivial
theorem head3.tw3387480952094366060 : True := trivial
theorem head3.tw17264806309582298476 : True := trivial
theorem head3.tw7636397310530830764 : True := trivial
theorem head3.tw14506629523753163180 : True := trivial
theorem head3.tw16990498972664701388 : True := trivial
theorem head3.tw4344230271839806924 : True := trivial
theorem head3.tw17536963369493161548 : True := trivial
theorem head3.tw12087996091529674316 : True := trivial
theorem head3.tw1098364864264730252 : True := trivial
theorem head3.tw11243431861163984716 : True := trivial
theorem head3.tw5895745635584822220 : True := trivial
theorem head3.tw11069985267321668588 : True := trivial
theorem head3.tw4065628337888140268 : True := trivial
theorem head3.tw8152416561247249388 : True := trivial
theorem head3.tw1539782711943035884 : True := trivial
theorem head3.tw13990880980207808525 : True := trivial
theorem head3.tw12149346047067004973 : True := trivial
theorem head3.tw15605177470619928013 : True := trivial
theorem head3.tw12196077918021293581 : True := trivial
theorem head3.tw16808066804817542669 : True := trivial
theorem head3.tw10211679597955147277 : True := trivial
theorem head3.tw7707323739890869805 : True := trivial
theorem head3.tw12260023815877078637 : True := trivial
theorem head3.tw6008274523904717453 : True := trivial
theorem head3.tw12561123962523425645 : True := trivial
theorem head3.tw5225702594998056877 : True := trivial
theorem head3.tw4056729266331311053 : True := trivial
theorem head3.tw9044011161114613774 : True := trivial
theorem head3.tw5968705230109622286 : True := trivial
theorem head3.tw15875462983559836686 : True := trivial
theorem head3.tw16887953380356104238 : True := trivial
theorem head3.tw17552351789844191310 : True := trivial
theorem head3.tw8419296283366577230 : True := trivial
theorem head3.tw13728948330173852846 : True := trivial
theorem head3.tw13947875224027392270 : True := trivial
theorem head3.tw14745377790963393902 : True := trivial
theorem head3.tw15217331287317319054 : True := trivial
theorem head3.tw4134287291742022030 : True := trivial
theorem head3.tw10013457554610780718 : True := trivial
theorem head3.tw8404905815742065198 : True := trivial
theorem head3.tw15419373776034675310 : True := trivial
theorem head3.tw16837133973341647502 : True := trivial
theorem head3.tw8133278449439813326 : True := trivial
theorem head3.tw17033215519297549070 : True := trivial
theorem head3.tw1602238896611908462 : True := trivial
theorem head3.tw16862022040471864367 : True := trivial
theorem head3.tw17961979848636924015 : True := trivial
theorem head3.tw6840295020253753487 : True := trivial
theorem head3.tw1176793452727422095 : True := trivial
theorem head3.tw13580283957761674447 : True := trivial
theorem head3.tw18330359137913183439 : True := trivial
theorem head3.tw17886292120060905807 : True := trivial
theorem head3.tw105701081483242863 : True := trivial
theorem head3.tw17585297088403596751 : True := trivial
theorem head3.tw4452710657520720399 : True := trivial
theorem head3.tw17322636841143626383 : True := trivial
theorem head3.tw2625685064463645391 : True := trivial
theorem head3.tw4246400370425005871 : True := trivial
theorem head3.tw412585047278767919 : True := trivial
theorem head3.tw300505927885799247 : True := trivial
theorem head3.tw3187280550650654736 : True := trivial
theorem head3.tw2136271788300799056 : True := trivial
theorem head3.tw11504606843409137744 : True := trivial
theorem head3.tw16435144874484042864 : True := trivial
theorem head3.tw17779735732873324688 : True := trivial
theorem head3.tw7108361040742424816 : True := trivial
theorem head3.tw15133888050559213936 : True := trivial
theorem head3.tw17029929599208712624 : True := trivial
theorem head3.tw18201543563677246896 : True := trivial
theorem head3.tw15648866292810058224 : True := trivial
theorem head3.tw5724299036492596752 : True := trivial
theorem head3.tw11628970109548522032 : True := trivial
theorem head3.tw11450261341291978320 : True := trivial
theorem head3.tw17864517761758875248 : True := trivial
theorem head3.tw13996866716077604496 : True := trivial
theorem head3.tw2269557139488532240 : True := trivial
theorem head3.tw9318600363164233520 : True := trivial
theorem head3.tw14122084915042232208 : True := trivial
theorem head3.tw306886912898570224 : True := trivial
theorem head3.tw1202726429499877360 : True := trivial
theorem head3.tw17139809258769251312 : True := trivial
theorem head3.tw1808514222183059505 : True := trivial
theorem head3.tw3148875567363834961 : True := trivial
theorem head3.tw10585770061728973905 : True := trivial
theorem head3.tw3627200006134538353 : True := trivial
theorem head3.tw17624759812483664145 : True := trivial
theorem head3.tw14589640016877675793 : True := trivial
theorem head3.tw12905371518957500785 : True := trivial
theorem head3.tw11838857900965970321 : True := trivial
theorem head3.tw9637134356922526129 : True := trivial
theorem head3.tw9766120074511928753 : True := trivial
theorem head3.tw1743191112668105201 : True := trivial
theorem head3.tw10083563853985816081 : True := trivial
theorem head3.tw13205990228563045905 : True := trivial
theorem head3.tw16822482388639497809 : True := trivial
theorem head3.tw10550712369239404177 : True := trivial
theorem head3.tw16454369205579597521 : True := trivial
theorem head3.tw12847092103069991793 : True := trivial
theorem head3.tw15640354145756650417 : True := trivial
theorem head3.tw147847141529069521 : True := trivial
theorem head3.tw5937117027010013137 : True := trivial
theorem head3.tw11757585790251477106 : True := trivial
theorem head3.tw13496620231755452562 : True := trivial
theorem head3.tw17826796492202685650 : True := trivial
theorem head3.tw10718577986569721074 : True := trivial
theorem head3.tw3262935513158839602 : True := trivial
theorem head3.tw13618563943544999250 : True := trivial
theorem head3.tw6220677597240858962 : True := trivial
theorem head3.tw1569353429255008690 : True := trivial
theorem head3.tw11194464780143674930 : True := trivial
theorem head3.tw10432480786378292786 : True := trivial
theorem head3.tw14357785779479970610 : True := trivial
theorem head3.tw4248743526542521170 : True := trivial
theorem head3.tw14251622957386296178 : True := trivial
theorem head3.tw15433045752812808050 : True := trivial
theorem head3.tw5868560609580312498 : True := trivial
theorem head3.tw16460571496638663795 : True := trivial
theorem head3.tw1364529707484817587 : True := trivial
theorem head3.tw9369604892278140115 : True := trivial
theorem head3.tw8856416351629381875 : True := trivial
theorem head3.tw836065153547312435 : True := trivial
theorem head3.tw16488962352167217459 : True := trivial
theorem head3.tw3248089922300226899 : True := trivial
theorem head3.tw1114920315782153555 : True := trivial
theorem head3.tw7926380119418974579 : True := trivial
theorem head3.tw17424204980883174867 : True := trivial
theorem head3.tw7356844907211264627 : True := trivial
theorem head3.tw3869531749725357747 : True := trivial
theorem head3.tw17281349332837518035 : True := trivial
theorem head3.tw12223337577641625363 : True := trivial
theorem head3.tw15019134817070434163 : True := trivial
theorem head3.tw12462136547891893139 : True := trivial
theorem head3.tw11929595562056529940 : True := trivial
theorem head3.tw6469671679911351316 : True := trivial
theorem head3.tw9633556305728398516 : True := trivial
theorem head3.tw8538663009659936980 : True := trivial
theorem head3.tw1231184367637375188 : True := trivial
theorem head3.tw2565478259431703796 : True := trivial
theorem head3.tw10713515492326284564 : True := trivial
theorem head3.tw10633712138840540596 : True := trivial
theorem head3.tw17575903004413867508 : True := trivial
theorem head3.tw6811955449808101940 : True := trivial
theorem head3.tw16953237354993142324 : True := trivial
theorem head3.tw6713665595439571572 : True := trivial
theorem head3.tw13469543659050025684 : True := trivial
theorem head3.tw4037922689971168020 : True := trivial
theorem head3.tw9607962276944172820 : True := trivial
theorem head3.tw1853570368447058740 : True := trivial
theorem head3.tw2532314394558724020 : True := trivial
theorem head3.tw12762082609351926772 : True := trivial
theorem head3.tw805552802198717525 : True := trivial
theorem head3.tw2508908946255708277 : True := trivial
theorem head3.tw6229747090705310837 : True := trivial
theorem head3.tw1256966382047330517 : True := trivial
theorem head3.tw15952888573671835861 : True := trivial
theorem head3.tw12953574636413940981 : True := trivial
theorem head3.tw10813003440734168405 : True := trivial
theorem head3.tw13016476053175908725 : True := trivial
theorem head3.tw4817665572030430581 : True := trivial
theorem head3.tw11932245020727505269 : True := trivial
theorem head3.tw3674686793762281941 : True := trivial
theorem head3.tw9587870242141750837 : True := trivial
theorem head3.tw18358573681252399765 : True := trivial
theorem head3.tw7752597549717298869 : True := trivial
theorem head3.tw14972820763589231349 : True := trivial
theorem head3.tw14519737452496015157 : True := trivial
theorem head3.tw5854387892988190709 : True := trivial
theorem head3.tw10238827447541737494 : True := trivial
theorem head3.tw4917262600391534646 : True := trivial
theorem head3.tw11861131146011571254 : True := trivial
theorem head3.tw5752745178102413398 : True := trivial
theorem head3.tw13440240005537863798 : True := trivial
theorem head3.tw11967487797878102198 : True := trivial
theorem head3.tw2706013826000168150 : True := trivial
theorem head3.tw1420423117388813718 : True := trivial
theorem head3.tw2452394437498630614 : True := trivial
theorem head3.tw103976980427405878 : True := trivial
theorem head3.tw11322595415161513558 : True := trivial
theorem head3.tw7435369720091782806 : True := trivial
theorem head3.tw14829772851289847478 : True := trivial
theorem head3.tw12448381134096736982 : True := trivial
theorem head3.tw9671410385095693046 : True := trivial
theorem head3.tw1800787571411678006 : True := trivial
theorem head3.tw4901813267607888726 : True := trivial
theorem head3.tw10891516535690246102 : True := trivial
theorem head3.tw10959342980663765974 : True := trivial
theorem head3.tw1885124846273810487 : True := trivial
theorem head3.tw4098272534775562327 : True := trivial
theorem head3.tw18339835137378706615 : True := trivial
theorem head3.tw8848918868441537751 : True := trivial
theorem head3.tw17909867044210544951 : True := trivial
theorem head3.tw11388740343435025751 : True := trivial
theorem head3.tw5758459456477835607 : True := trivial
theorem head3.tw10627325707943255511 : True := trivial
theorem head3.tw2177694708436233719 : True := trivial
theorem head3.tw3765129256989668983 : True := trivial
theorem head3.tw5321132211333465815 : True := trivial
theorem head3.tw7870529308769643255 : True := trivial
theorem head3.tw6024446111259669303 : True := trivial
theorem head3.tw7719503659108636503 : True := trivial
theorem head3.tw16196012831794597783 : True := trivial
theorem head3.tw7418906954361001943 : True := trivial
theorem head3.tw1305322378809475063 : True := trivial
theorem head3.tw15424793890112600 : True := trivial
theorem head3.tw2121845222136083576 : True := trivial
theorem head3.tw17312815950114584696 : True := trivial
theorem head3.tw1939796969511723256 : True := trivial
theorem head3.tw1544299290894473496 : True := trivial
theorem head3.tw17668844379650746680 : True := trivial
theorem head3.tw8004905522658572632 : True := trivial
theorem head3.tw14575743933676020152 : True := trivial
theorem head3.tw10918010917865726392 : True := trivial
theorem head3.tw31165862291974680 : True := trivial
theorem head3.tw13387432846185957944 : True := trivial
theorem head3.tw11994356285265946168 : True := trivial
theorem head3.tw16329357602514004536 : True := trivial
theorem head3.tw7198232624761810552 : True := trivial
theorem head3.tw17618347445912918712 : True := trivial
theorem head3.tw1107739810673342168 : True := trivial
theorem head3.tw153836607047687960 : True := trivial
theorem head3.tw16516675079691190072 : True := trivial
theorem head3.tw3135633786790927160 : True := trivial
theorem head3.tw8134264014197207928 : True := trivial
theorem head3.tw313388181494651896 : True := trivial
theorem head3.tw16320488692518031545 : True := trivial
theorem head3.tw5297311748055761113 : True := trivial
theorem head3.tw11670444427116523769 : True := trivial
theorem head3.tw1972319596021339449 : True := trivial
theorem head3.tw14548954628221312345 : True := trivial
theorem head3.tw1175597313139740025 : True := trivial
theorem head3.tw72784023312656825 : True := trivial
theorem head3.tw4989170842818379225 : True := trivial
theorem head3.tw8185984686606374457 : True := trivial
theorem head3.tw9572191671468838489 : True := trivial
theorem head3.tw12542558578017170009 : True := trivial
theorem head3.tw6416203413599214265 : True := trivial
theorem head3.tw1957209141703420601 : True := trivial
theorem head3.tw6197411199280905945 : True := trivial
theorem head3.tw10680706445540913945 : True := trivial
theorem head3.tw4867046992033783641 : True := trivial
theorem head3.tw3800058833204417401 : True := trivial
theorem head3.tw17180310837842791289 : True := trivial
theorem head3.tw12086249552472763257 : True := trivial
theorem head3.tw14244818768431559577 : True := trivial
theorem head3.tw16252725993176494009 : True := trivial
theorem head3.tw472640052024990681 : True := trivial
theorem head3.tw15957177879382488057 : True := trivial
theorem head3.tw11010640831895675066 : True := trivial
theorem head3.tw4615923703925169338 : True := trivial
theorem head3.tw9632000703837493594 : True := trivial
theorem head3.tw15620009107502963034 : True := trivial
theorem head3.tw9021447530132232666 : True := trivial
theorem head3.tw3625145690448380378 : True := trivial
theorem head3.tw2240875363517149786 : True := trivial
theorem head3.tw10435490330344203962 : True := trivial
theorem head3.tw4366949833455220442 : True := trivial
theorem head3.tw9243200712260863770 : True := trivial
theorem head3.tw3469846052873689946 : True := trivial
theorem head3.tw15954688200607633242 : True := trivial
theorem head3.tw2420694848650666874 : True := trivial
theorem head3.tw1151973524271008730 : True := trivial
theorem head3.tw6319960102277687258 : True := trivial
theorem head3.tw8846826362820513883 : True := trivial
theorem head3.tw6030239771602159739 : True := trivial
theorem head3.tw3482758394459845851 : True := trivial
theorem head3.tw3594319883139967259 : True := trivial
theorem head3.tw2447870199837196795 : True := trivial
theorem head3.tw18278443596002850299 : True := trivial
theorem head3.tw2152245118157695675 : True := trivial
theorem head3.tw15151383463625986747 : True := trivial
theorem head3.tw15639734848726306587 : True := trivial
theorem head3.tw17538994879383654171 : True := trivial
theorem head3.tw12949386601257122651 : True := trivial
theorem head3.tw3500581482888514395 : True := trivial
theorem head3.tw6174291107009723227 : True := trivial
theorem head3.tw10445648487766516603 : True := trivial
theorem head3.tw10775549445066593211 : True := trivial
theorem head3.tw11256033673129957307 : True := trivial
theorem head3.tw1648137993042255803 : True := trivial
theorem head3.tw18071686947039329243 : True := trivial
theorem head3.tw14414963523104637947 : True := trivial
theorem head3.tw11042875438625987612 : True := trivial
theorem head3.tw3060258016039669820 : True := trivial
theorem head3.tw16351867375588438140 : True := trivial
theorem head3.tw716702950390632764 : True := trivial
theorem head3.tw17349246378947856860 : True := trivial
theorem head3.tw2169739777952088604 : True := trivial
theorem head3.tw17609168157987789372 : True := trivial
theorem head3.tw8521181889374029468 : True := trivial
theorem head3.tw15839825205655359196 : True := trivial
theorem head3.tw5359778176466392892 : True := trivial
theorem head3.tw18405514312145898460 : True := trivial
theorem head3.tw1411612829793913852 : True := trivial
theorem head3.tw17926664513080974332 : True := trivial
theorem head3.tw12153021511078038717 : True := trivial
theorem head3.tw12165010615864999133 : True := trivial
theorem head3.tw7475436917615157565 : True := trivial
theorem head3.tw7752736128980072797 : True := trivial
theorem head3.tw4298428932209122749 : True := trivial
theorem head3.tw6262612816865605149 : True := trivial
theorem head3.tw11442462399209226781 : True := trivial
theorem head3.tw15332058514284831261 : True := trivial
theorem head3.tw9772061758549088893 : True := trivial
theorem head3.tw3398685928649208509 : True := trivial
theorem head3.tw4927177584899752669 : True := trivial
theorem head3.tw2787383370271053565 : True := trivial
theorem head3.tw5238286435388750621 : True := trivial
theorem head3.tw4395596125283742525 : True := trivial
theorem head3.tw7623635434428123965 : True := trivial
theorem head3.tw12908133860323773373 : True := trivial
theorem head3.tw3454878145338545117 : True := trivial
theorem head3.tw9557873318335727613 : True := trivial
theorem head3.tw15398609395562375262 : True := trivial
theorem head3.tw15735512470686400702 : True := trivial
theorem head3.tw17413338371447543998 : True := trivial
theorem head3.tw4617938459720522974 : True := trivial
theorem head3.tw13519251584946964734 : True := trivial
theorem head3.tw9015037922485598462 : True := trivial
theorem head3.tw4898341759946739998 : True := trivial
theorem head3.tw6287698160813649214 : True := trivial
theorem head3.tw11720968415252112830 : True := trivial
theorem head3.tw4806642327743922654 : True := trivial
theorem head3.tw11797321129571383774 : True := trivial
theorem head3.tw14358151786057680414 : True := trivial
theorem head3.tw13335725765981185758 : True := trivial
theorem head3.tw12399212807537383134 : True := trivial
theorem head3.tw3153147712974121790 : True := trivial
theorem head3.tw9741294640687471422 : True := trivial
theorem head3.tw8147142545384938334 : True := trivial
theorem head3.tw6529598614228846430 : True := trivial
theorem head3.tw14112939510306564990 : True := trivial
theorem head3.tw11665380677248951166 : True := trivial
theorem head3.tw4354584404362485694 : True := trivial
theorem head3.tw16438850750420386879 : True := trivial
theorem head3.tw15844698933123831903 : True := trivial
theorem head3.tw5331660847936539871 : True := trivial
theorem head3.tw14474961254944967039 : True := trivial
theorem head3.tw5437640571487997439 : True := trivial
theorem head3.tw15700006013568033343 : True := trivial
theorem head3.tw6290904730065038943 : True := trivial
theorem head3.tw14746245259154325087 : True := trivial
theorem head3.tw2064665689022889599 : True := trivial
theorem head3.tw16897064488453225247 : True := trivial
theorem head3.tw14466575276121166719 : True := trivial
theorem head3.tw7451362556625284063 : True := trivial
set_option Elab.async true in
set_option maxRecDepth 100000 in
set_option maxHeartbeats 0 in
theorem head3 : PySem.Challenge.rw_oz0057_03.Holds := by
  w_on
  o_law
  o_head (kHook K3 ((nat_lit 2)::(nat_lit 3)::(nat_lit 43)::(nat_lit 45)::(nat_lit 46)::(nat_lit 48)::(nat_lit 49)::(nat_lit 50)::(nat_lit 57)::(nat_lit 58)::(nat_lit 59)::(nat_lit 60)::(nat_lit 70)::(nat_lit 71)::(nat_lit 72)::(nat_lit 74)::(nat_lit 75)::(nat_lit 77)::(nat_lit 78)::(nat_lit 79)::(nat_lit 81)::(nat_lit 82)::(nat_lit 84)::(nat_lit 85)::(nat_lit 86)::(nat_lit 87)::(nat_lit 88)::(nat_lit 89)::(nat_lit 90)::(nat_lit 92)::(nat_lit 93)::(nat_lit 95)::(nat_lit 96)::(nat_lit 97)::(nat_lit 99)::(nat_lit 100)::(nat_lit 102)::(nat_lit 103)::(nat_lit 104)::(nat_lit 106)::(nat_lit 107)::(nat_lit 109)::(nat_lit 110)::(nat_lit 111)::(nat_lit 113)::(nat_lit 114)::(nat_lit 116)::(nat_lit 117)::(nat_lit 118)::(nat_lit 119)::(nat_lit 121)::(nat_lit 122)::(nat_lit 124)::(nat_lit 125)::(nat_lit 126)::(nat_lit 128)::(nat_lit 129)::(nat_lit 131)::(nat_lit 132)::(nat_lit 133)::(nat_lit 135)::(nat_lit 136)::(nat_lit 138)::(nat_lit 139)::(nat_lit 140)::(nat_lit 142)::(nat_lit 143)::(nat_lit 145)::(nat_lit 146)::(nat_lit 147)::(nat_lit 148)::(nat_lit 150)::(nat_lit 151)::(nat_lit 153)::(nat_lit 154)::(nat_lit 155)::(nat_lit 156)::(nat_lit 158)::(nat_lit 159)::(nat_lit 161)::(nat_lit 162)::(nat_lit 163)::(nat_lit 164)::(nat_lit 166)::(nat_lit 167)::(nat_lit 169)::(nat_lit 170)::(nat_lit 171)::(nat_lit 172)::(nat_lit 174)::(nat_lit 175)::(nat_lit 177)::(nat_lit 178)::(nat_lit 179)::(nat_lit 180)::(nat_lit 182)::(nat_lit 183)::(nat_lit 185)::(nat_lit 186)::(nat_lit 187)::(nat_lit 189)::(nat_lit 190)::(nat_lit 192)::(nat_lit 193)::(nat_lit 194)::(nat_lit 196)::(nat_lit 197)::(nat_lit 199)::(nat_lit 200)::(nat_lit 201)::(nat_lit 203)::(nat_lit 204)::(nat_lit 206)::(nat_lit 207)::(nat_lit 208)::(nat_lit 210)::(nat_lit 211)::(nat_lit 213)::(nat_lit 214)::(nat_lit 215)::(nat_lit 217)::(nat_lit 218)::(nat_lit 220)::(nat_lit 221)::(nat_lit 222)::(nat_lit 224)::(nat_lit 225)::(nat_lit 227)::(nat_lit 228)::(nat_lit 229)::(nat_lit 231)::(nat_lit 232)::(nat_lit 234)::(nat_lit 235)::(nat_lit 236)::(nat_lit 238)::(nat_lit 239)::(nat_lit 241)::(nat_lit 242)::(nat_lit 243)::(nat_lit 245)::(nat_lit 246)::(nat_lit 248)::(nat_lit 249)::(nat_lit 250)::(nat_lit 252)::(nat_lit 253)::(nat_lit 255)::(nat_lit 256)::(nat_lit 257)::(nat_lit 259)::(nat_lit 260)::(nat_lit 262)::(nat_lit 263)::(nat_lit 264)::(nat_lit 269)::(nat_lit 270)::(nat_lit 271)::(nat_lit 272)::(nat_lit 275)::(nat_lit 277)::(nat_lit 278)::(nat_lit 280)::(nat_lit 281)::(nat_lit 282)::(nat_lit 285)::(nat_lit 286)::[]) (fun _ => by kernel_rfl))
  case hw => w_witness2
  exact walkT3
end Mine

end Head
theorem PySem.Challenge.cw_oz0057_03_holds : PySem.Challenge.rw_oz0057_03.Holds := by
  exact Mine.head3
